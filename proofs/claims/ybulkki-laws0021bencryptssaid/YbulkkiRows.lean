/-
  No cell of these rows narrows 'for every input' (looked for: loops, veiled, ifaces, maps, wideKeys, modest, calm, conditions, laid).
  DERIVED. THE GIVEN ROWS OF THIS SEAT. 5 by the template 'for every input the law returns true; each argument reads behind the call as it read before'; 0 by the template 'total and deterministic' (their statements: YbulkkiTotals.lean).
  GIVEN WITH THE SEED: the statements are not yours to turn. If you find one false, say at which input.
  Laid BY PROGRAM, IN A SANDBOX (cutbox-rows.mjs): the forced cells as the released guide's own fill.sh prints them over the translation f3a11bdf5a7e30ea… (all of the seat's roots in one cut). By AI agents, Wed Nov 11 2026. No macro, syntax, notation, axiom, sorry.
-/
import Derived.Test.YbulkkiChecked
import GoSem.Claim
import GoSem.ClaimJoined
import GoSem.ClaimMapViews
import Derived.JoinedTies
import Derived.KernelRfl
namespace Go.Proofs.Ybulkki
/- THE CELL 'sum', in the pinned program and in every row, IS THE sha256 OF THE DUMP (.gsa) THAT YbulkkiProg.lean LOADS. Nothing in Lean hashes anything: it is a label: what it is worth is what the hold of that sum in a sandbox is worth. -/
noncomputable def Yba.pinned : Pinned := { name := "ybulkki", sum := "f3a11bdf5a7e30eab9207f58fda347ba17daba2be4c63876ca5be599b110ba71", checked := Yba.checked }
namespace Rows
def none {H : Type} : Left H := { results := [], args := [] }

/-- 'quintet.LawS0021ABigEndian': WHATEVER THE INPUT: true; the input reads as it did. -/
def lawS0021ABigEndianSpec : ChangeSpec := { name := "lawS0021ABigEndian", fn := fun _ => fun
  | [d1, d2] => { results := [.lit (.bool true)], args := [d1, d2] }
  | _ => none }
def lawS0021ABigEndianRow : OpenClaim := { program := "ybulkki", sum := "f3a11bdf5a7e30eab9207f58fda347ba17daba2be4c63876ca5be599b110ba71", func := "example.com/quintet/quintet.LawS0021ABigEndian", spec := "lawS0021ABigEndian", named := ["encoding/binary.BigEndian"], apart := false }
def LawS0021ABigEndianSaid : Prop := lawS0021ABigEndianRow.holds Yba.pinned (OpenSpec.ofChange lawS0021ABigEndianSpec)

/-- ITS FALSE NEIGHBOUR: 'it returns false'. Refute it at one input. -/
def lawS0021ABigEndianWrong : ChangeSpec := { name := "lawS0021ABigEndian", fn := fun _ => fun
  | [d1, d2] => { results := [.lit (.bool false)], args := [d1, d2] }
  | _ => none }
def LawS0021ABigEndianWrongFalsely : Prop := lawS0021ABigEndianRow.holds Yba.pinned (OpenSpec.ofChange lawS0021ABigEndianWrong)

/-- 'quintet.LawS0021ARoundTrip': WHATEVER THE INPUT: true; the input reads as it did. -/
def lawS0021ARoundTripSpec : ChangeSpec := { name := "lawS0021ARoundTrip", fn := fun _ => fun
  | [d1, d2] => { results := [.lit (.bool true)], args := [d1, d2] }
  | _ => none }
def lawS0021ARoundTripRow : OpenClaim := { program := "ybulkki", sum := "f3a11bdf5a7e30eab9207f58fda347ba17daba2be4c63876ca5be599b110ba71", func := "example.com/quintet/quintet.LawS0021ARoundTrip", spec := "lawS0021ARoundTrip", named := ["encoding/binary.BigEndian"], apart := false }
def LawS0021ARoundTripSaid : Prop := lawS0021ARoundTripRow.holds Yba.pinned (OpenSpec.ofChange lawS0021ARoundTripSpec)

/-- ITS FALSE NEIGHBOUR: 'it returns false'. Refute it at one input. -/
def lawS0021ARoundTripWrong : ChangeSpec := { name := "lawS0021ARoundTrip", fn := fun _ => fun
  | [d1, d2] => { results := [.lit (.bool false)], args := [d1, d2] }
  | _ => none }
def LawS0021ARoundTripWrongFalsely : Prop := lawS0021ARoundTripRow.holds Yba.pinned (OpenSpec.ofChange lawS0021ARoundTripWrong)

/-- 'quintet.LawS0021BEncrypts': WHATEVER THE INPUT: true; the input reads as it did. -/
def lawS0021BEncryptsSpec : ChangeSpec := { name := "lawS0021BEncrypts", fn := fun _ => fun
  | [d1, d2, d3, d4] => { results := [.lit (.bool true)], args := [d1, d2, d3, d4] }
  | _ => none }
def lawS0021BEncryptsRow : OpenClaim := { program := "ybulkki", sum := "f3a11bdf5a7e30eab9207f58fda347ba17daba2be4c63876ca5be599b110ba71", func := "example.com/quintet/quintet.LawS0021BEncrypts", spec := "lawS0021BEncrypts", unfollowed := true, recurses := true, named := ["encoding/binary.BigEndian"], apart := false }
def LawS0021BEncryptsSaid : Prop := lawS0021BEncryptsRow.holds Yba.pinned (OpenSpec.ofChange lawS0021BEncryptsSpec)

/-- ITS FALSE NEIGHBOUR: 'it returns false'. Refute it at one input. -/
def lawS0021BEncryptsWrong : ChangeSpec := { name := "lawS0021BEncrypts", fn := fun _ => fun
  | [d1, d2, d3, d4] => { results := [.lit (.bool false)], args := [d1, d2, d3, d4] }
  | _ => none }
def LawS0021BEncryptsWrongFalsely : Prop := lawS0021BEncryptsRow.holds Yba.pinned (OpenSpec.ofChange lawS0021BEncryptsWrong)

/-- 'quintet.LawS0021CExact': WHATEVER THE INPUT: true; the input reads as it did. -/
def lawS0021CExactSpec : ChangeSpec := { name := "lawS0021CExact", fn := fun _ => fun
  | [d1, d2] => { results := [.lit (.bool true)], args := [d1, d2] }
  | _ => none }
def lawS0021CExactRow : OpenClaim := { program := "ybulkki", sum := "f3a11bdf5a7e30eab9207f58fda347ba17daba2be4c63876ca5be599b110ba71", func := "example.com/quintet/quintet.LawS0021CExact", spec := "lawS0021CExact", apart := false }
def LawS0021CExactSaid : Prop := lawS0021CExactRow.holds Yba.pinned (OpenSpec.ofChange lawS0021CExactSpec)

/-- ITS FALSE NEIGHBOUR: 'it returns false'. Refute it at one input. -/
def lawS0021CExactWrong : ChangeSpec := { name := "lawS0021CExact", fn := fun _ => fun
  | [d1, d2] => { results := [.lit (.bool false)], args := [d1, d2] }
  | _ => none }
def LawS0021CExactWrongFalsely : Prop := lawS0021CExactRow.holds Yba.pinned (OpenSpec.ofChange lawS0021CExactWrong)

/-- 'quintet.LawS0021CSymmetry': WHATEVER THE INPUT: true; the input reads as it did. -/
def lawS0021CSymmetrySpec : ChangeSpec := { name := "lawS0021CSymmetry", fn := fun _ => fun
  | [d1, d2] => { results := [.lit (.bool true)], args := [d1, d2] }
  | _ => none }
def lawS0021CSymmetryRow : OpenClaim := { program := "ybulkki", sum := "f3a11bdf5a7e30eab9207f58fda347ba17daba2be4c63876ca5be599b110ba71", func := "example.com/quintet/quintet.LawS0021CSymmetry", spec := "lawS0021CSymmetry", apart := false }
def LawS0021CSymmetrySaid : Prop := lawS0021CSymmetryRow.holds Yba.pinned (OpenSpec.ofChange lawS0021CSymmetrySpec)

/-- ITS FALSE NEIGHBOUR: 'it returns false'. Refute it at one input. -/
def lawS0021CSymmetryWrong : ChangeSpec := { name := "lawS0021CSymmetry", fn := fun _ => fun
  | [d1, d2] => { results := [.lit (.bool false)], args := [d1, d2] }
  | _ => none }
def LawS0021CSymmetryWrongFalsely : Prop := lawS0021CSymmetryRow.holds Yba.pinned (OpenSpec.ofChange lawS0021CSymmetryWrong)

end Rows
end Go.Proofs.Ybulkki
