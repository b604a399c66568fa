/-
  No cell of these rows narrows 'for every input' (looked for: loops, veiled, ifaces, maps, wideKeys, modest, calm, conditions, laid).
  DERIVED. THE GIVEN ROWS OF THIS SEAT. 1 by the template 'for every input the law returns true; each argument reads behind the call as it read before'; 0 by the template 'total and deterministic' (their statements: YbulkisTotals.lean).
  GIVEN WITH THE SEED: the statements are not yours to turn. If you find one false, say at which input.
  Laid BY PROGRAM, IN A SANDBOX (cutbox-rows.mjs): the forced cells as the released guide's own fill.sh prints them over the translation 562a3c77a3e34541… (all of the seat's roots in one cut). By AI agents, Wed Nov 11 2026. No macro, syntax, notation, axiom, sorry.
-/
import Derived.Test.YbulkisChecked
import GoSem.Claim
import GoSem.ClaimJoined
import GoSem.ClaimMapViews
import Derived.JoinedTies
import Derived.KernelRfl
namespace Go.Proofs.Ybulkis
/- THE CELL 'sum', in the pinned program and in every row, IS THE sha256 OF THE DUMP (.gsa) THAT YbulkisProg.lean LOADS. Nothing in Lean hashes anything: it is a label: what it is worth is what the hold of that sum in a sandbox is worth. -/
noncomputable def Yba.pinned : Pinned := { name := "ybulkis", sum := "562a3c77a3e3454136d3a2e0fc412689882a4f2c94b2507d56be1b1fbc8c244a", checked := Yba.checked }
namespace Rows
def none {H : Type} : Left H := { results := [], args := [] }

/-- 'keen-scheduler.LawS0018AFirstWins': WHATEVER THE INPUT: true; the input reads as it did. -/
def lawS0018AFirstWinsSpec : ChangeSpec := { name := "lawS0018AFirstWins", fn := fun _ => fun
  | [d] => { results := [.lit (.bool true)], args := [d] }
  | _ => none }
def lawS0018AFirstWinsRow : OpenClaim := { program := "ybulkis", sum := "562a3c77a3e3454136d3a2e0fc412689882a4f2c94b2507d56be1b1fbc8c244a", func := "example.com/keen-scheduler/keen-scheduler.LawS0018AFirstWins", spec := "lawS0018AFirstWins", inPlace := ["sync/atomic.LoadUint32", "(*internal/sync.Mutex).Lock", "internal/race.Disable", "sync/atomic.CompareAndSwapInt32", "internal/race.Enable", "internal/race.Acquire", "(*internal/sync.Mutex).lockSlow", "internal/sync.runtime_canSpin", "internal/sync.runtime_doSpin", "internal/sync.throw", "internal/sync.runtime_nanotime", "internal/sync.runtime_SemacquireMutex", "sync/atomic.AddInt32", "(*internal/sync.Mutex).Unlock", "internal/race.ReleaseMerge", "(*internal/sync.Mutex).unlockSlow", "internal/sync.fatal", "internal/sync.runtime_Semrelease", "sync/atomic.StoreUint32"], unfollowed := true, recurses := true, apart := false }
def LawS0018AFirstWinsSaid : Prop := lawS0018AFirstWinsRow.holds Yba.pinned (OpenSpec.ofChange lawS0018AFirstWinsSpec)

/-- ITS FALSE NEIGHBOUR: 'it returns false'. Refute it at one input. -/
def lawS0018AFirstWinsWrong : ChangeSpec := { name := "lawS0018AFirstWins", fn := fun _ => fun
  | [d] => { results := [.lit (.bool false)], args := [d] }
  | _ => none }
def LawS0018AFirstWinsWrongFalsely : Prop := lawS0018AFirstWinsRow.holds Yba.pinned (OpenSpec.ofChange lawS0018AFirstWinsWrong)

end Rows
end Go.Proofs.Ybulkis
