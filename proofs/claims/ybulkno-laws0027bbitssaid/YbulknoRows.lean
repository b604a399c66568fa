/-
  No cell of these rows narrows 'for every input' (looked for: loops, veiled, ifaces, maps, wideKeys, modest, calm, conditions, laid).
  DERIVED. THE GIVEN ROWS OF THIS SEAT. 1 by the template 'for every input the law returns true; each argument reads behind the call as it read before'; 0 by the template 'total and deterministic' (their statements: YbulknoTotals.lean).
  GIVEN WITH THE SEED: the statements are not yours to turn. If you find one false, say at which input.
  Laid BY PROGRAM, IN A SANDBOX (cutbox-rows.mjs): the forced cells as the released guide's own fill.sh prints them over the translation bad3a5b736a2ee1e… (all of the seat's roots in one cut). By AI agents, Wed Nov 11 2026. No macro, syntax, notation, axiom, sorry.
-/
import Derived.Test.YbulknoChecked
import GoSem.Claim
import GoSem.ClaimJoined
import GoSem.ClaimMapViews
import Derived.JoinedTies
import Derived.KernelRfl
namespace Go.Proofs.Ybulkno
/- THE CELL 'sum', in the pinned program and in every row, IS THE sha256 OF THE DUMP (.gsa) THAT YbulknoProg.lean LOADS. Nothing in Lean hashes anything: it is a label: what it is worth is what the hold of that sum in a sandbox is worth. -/
noncomputable def Yba.pinned : Pinned := { name := "ybulkno", sum := "bad3a5b736a2ee1e451c9ea2abb52751e3004663ef7e3ac1267061a7475fe8d4", checked := Yba.checked }
namespace Rows
def none {H : Type} : Left H := { results := [], args := [] }

/-- 'per.LawS0027BBits': WHATEVER THE INPUT: true; the input reads as it did. -/
def lawS0027BBitsSpec : ChangeSpec := { name := "lawS0027BBits", fn := fun _ => fun
  | [d1, d2, d3, d4] => { results := [.lit (.bool true)], args := [d1, d2, d3, d4] }
  | _ => none }
def lawS0027BBitsRow : OpenClaim := { program := "ybulkno", sum := "bad3a5b736a2ee1e451c9ea2abb52751e3004663ef7e3ac1267061a7475fe8d4", func := "example.com/crosscell/crosscell/internal/per.LawS0027BBits", spec := "lawS0027BBits", recurses := true, apart := false }
def LawS0027BBitsSaid : Prop := lawS0027BBitsRow.holds Yba.pinned (OpenSpec.ofChange lawS0027BBitsSpec)

/-- ITS FALSE NEIGHBOUR: 'it returns false'. Refute it at one input. -/
def lawS0027BBitsWrong : ChangeSpec := { name := "lawS0027BBits", fn := fun _ => fun
  | [d1, d2, d3, d4] => { results := [.lit (.bool false)], args := [d1, d2, d3, d4] }
  | _ => none }
def LawS0027BBitsWrongFalsely : Prop := lawS0027BBitsRow.holds Yba.pinned (OpenSpec.ofChange lawS0027BBitsWrong)

end Rows
end Go.Proofs.Ybulkno
