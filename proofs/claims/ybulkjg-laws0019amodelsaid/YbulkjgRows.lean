/-
  No cell of these rows narrows 'for every input' (looked for: loops, veiled, ifaces, maps, wideKeys, modest, calm, conditions, laid).
  DERIVED. THE GIVEN ROWS OF THIS SEAT. 2 by the template 'for every input the law returns true; each argument reads behind the call as it read before'; 0 by the template 'total and deterministic' (their statements: YbulkjgTotals.lean).
  GIVEN WITH THE SEED: the statements are not yours to turn. If you find one false, say at which input.
  Laid BY PROGRAM, IN A SANDBOX (cutbox-rows.mjs): the forced cells as the released guide's own fill.sh prints them over the translation de711188c3678855… (all of the seat's roots in one cut). By AI agents, Wed Nov 11 2026. No macro, syntax, notation, axiom, sorry.
-/
import Derived.Test.YbulkjgChecked
import GoSem.Claim
import GoSem.ClaimJoined
import GoSem.ClaimMapViews
import Derived.JoinedTies
import Derived.KernelRfl
namespace Go.Proofs.Ybulkjg
/- THE CELL 'sum', in the pinned program and in every row, IS THE sha256 OF THE DUMP (.gsa) THAT YbulkjgProg.lean LOADS. Nothing in Lean hashes anything: it is a label: what it is worth is what the hold of that sum in a sandbox is worth. -/
noncomputable def Yba.pinned : Pinned := { name := "ybulkjg", sum := "de711188c36788558230b15c6eb217d8afd33b3c4296e9e698d4eb0397b137b9", checked := Yba.checked }
namespace Rows
def none {H : Type} : Left H := { results := [], args := [] }

/-- 'reconcile.LawS0019AModel': WHATEVER THE INPUT: true; the input reads as it did. -/
def lawS0019AModelSpec : ChangeSpec := { name := "lawS0019AModel", fn := fun _ => fun
  | [d1, d2, d3] => { results := [.lit (.bool true)], args := [d1, d2, d3] }
  | _ => none }
def lawS0019AModelRow : OpenClaim := { program := "ybulkjg", sum := "de711188c36788558230b15c6eb217d8afd33b3c4296e9e698d4eb0397b137b9", func := "example.com/ebbmark/ebbmark/pkg/reconcile.LawS0019AModel", spec := "lawS0019AModel", apart := false }
def LawS0019AModelSaid : Prop := lawS0019AModelRow.holds Yba.pinned (OpenSpec.ofChange lawS0019AModelSpec)

/-- ITS FALSE NEIGHBOUR: 'it returns false'. Refute it at one input. -/
def lawS0019AModelWrong : ChangeSpec := { name := "lawS0019AModel", fn := fun _ => fun
  | [d1, d2, d3] => { results := [.lit (.bool false)], args := [d1, d2, d3] }
  | _ => none }
def LawS0019AModelWrongFalsely : Prop := lawS0019AModelRow.holds Yba.pinned (OpenSpec.ofChange lawS0019AModelWrong)

/-- 'reconcile.LawS0019ACompose': WHATEVER THE INPUT: true; the input reads as it did. -/
def lawS0019AComposeSpec : ChangeSpec := { name := "lawS0019ACompose", fn := fun _ => fun
  | [d1, d2, d3, d4] => { results := [.lit (.bool true)], args := [d1, d2, d3, d4] }
  | _ => none }
def lawS0019AComposeRow : OpenClaim := { program := "ybulkjg", sum := "de711188c36788558230b15c6eb217d8afd33b3c4296e9e698d4eb0397b137b9", func := "example.com/ebbmark/ebbmark/pkg/reconcile.LawS0019ACompose", spec := "lawS0019ACompose", apart := false }
def LawS0019AComposeSaid : Prop := lawS0019AComposeRow.holds Yba.pinned (OpenSpec.ofChange lawS0019AComposeSpec)

/-- ITS FALSE NEIGHBOUR: 'it returns false'. Refute it at one input. -/
def lawS0019AComposeWrong : ChangeSpec := { name := "lawS0019ACompose", fn := fun _ => fun
  | [d1, d2, d3, d4] => { results := [.lit (.bool false)], args := [d1, d2, d3, d4] }
  | _ => none }
def LawS0019AComposeWrongFalsely : Prop := lawS0019AComposeRow.holds Yba.pinned (OpenSpec.ofChange lawS0019AComposeWrong)

end Rows
end Go.Proofs.Ybulkjg
