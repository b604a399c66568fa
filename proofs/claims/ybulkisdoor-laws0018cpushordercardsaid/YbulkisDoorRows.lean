/-
  NARROWER THAN 'FOR EVERY INPUT', by the rows' own cells (each row's printed sentence says how): LawS0018CPushOrder: ifaces, laid · LawS0018CAbandonDrop: ifaces, laid.
  DERIVED. THE GIVEN ROWS OF THIS SEAT. 2 by the template 'for every input the law returns true; each argument reads behind the call as it read before'; 0 by the template 'total and deterministic' (their statements: YbulkisDoorTotals.lean).
  GIVEN WITH THE SEED: the statements are not yours to turn. If you find one false, say at which input.
  Laid BY PROGRAM, IN A SANDBOX (cutbox-rows.mjs): the forced cells as the released guide's own fill.sh prints them over the translation ad16b4d74a78fda1… (all of the seat's roots in one cut). By AI agents, Wed Nov 11 2026. No macro, syntax, notation, axiom, sorry.
-/
import Derived.Test.YbulkisDoorChecked
import GoSem.Claim
import GoSem.ClaimJoined
import GoSem.ClaimMapViews
import Derived.JoinedTies
import Derived.KernelRfl
namespace Go.Proofs.YbulkisDoor
/- THE CELL 'sum', in the pinned program and in every row, IS THE sha256 OF THE DUMP (.gsa) THAT YbulkisDoorProg.lean LOADS. Nothing in Lean hashes anything: it is a label: what it is worth is what the hold of that sum in a sandbox is worth. -/
noncomputable def Ybad.pinned : Pinned := { name := "ybulkisdoor", sum := "ad16b4d74a78fda1a05c96cd48bc822d892eb96f32748285d1bc5b81510b4308", checked := Ybad.checked }
namespace Rows
def none {H : Type} : Left H := { results := [], args := [] }

/- WHAT THE LISTED PACKAGE-LEVEL VARIABLES READ AS WHEN THE CALL BEGINS. Each datum BY PROGRAM (the guide's laid-datum.mjs) off the statement by which the dump's own 'gosem.cut.vars' lays the variable. In a bare row this is a premise. The card (YbulkisDoorCards.lean) ties it to the program's text. -/
def laid_example_com_keen_scheduler_keen_scheduler_ErrClosed {H : Type} : DataW H := .iface "*errors.errorString" (.ptr (.agg [.lit (.string [107, 101, 101, 110, 58, 32, 115, 99, 104, 101, 100, 117, 108, 101, 114, 32, 99, 108, 111, 115, 101, 100])]))

/-- 'keen-scheduler.LawS0018CPushOrder': WHATEVER THE INPUT: true; the input reads as it did. -/
def lawS0018CPushOrderSpec : ChangeSpec := { name := "lawS0018CPushOrder", vars := ["example.com/keen-scheduler/keen-scheduler.ErrClosed"], fn := fun _ => fun
  | [d1, d2, g1] => { results := [.lit (.bool true)], args := [d1, d2], vars := [g1] }
  | _ => none }
def lawS0018CPushOrderRow : OpenClaim := { program := "ybulkisdoor", sum := "ad16b4d74a78fda1a05c96cd48bc822d892eb96f32748285d1bc5b81510b4308", func := "example.com/keen-scheduler/keen-scheduler.LawS0018CPushOrder", spec := "lawS0018CPushOrder", inPlace := ["(*internal/sync.Mutex).Lock", "internal/race.Disable", "sync/atomic.CompareAndSwapInt32", "internal/race.Enable", "internal/race.Acquire", "(*internal/sync.Mutex).lockSlow", "internal/sync.runtime_canSpin", "internal/sync.runtime_doSpin", "internal/sync.throw", "internal/sync.runtime_nanotime", "internal/sync.runtime_SemacquireMutex", "sync/atomic.AddInt32", "sync/atomic.LoadUint32", "(*internal/sync.Mutex).Unlock", "internal/race.ReleaseMerge", "(*internal/sync.Mutex).unlockSlow", "internal/sync.fatal", "internal/sync.runtime_Semrelease", "sync/atomic.AddUint64", "sync/atomic.StoreUint32", "(*sync.WaitGroup).Done", "(*sync.WaitGroup).Add", "internal/synctest.IsInBubble", "internal/synctest.Associate[sync.WaitGroup]", "sync.fatal", "sync/atomic.OrUint64", "internal/race.Read", "sync/atomic.LoadUint64", "sync/atomic.StoreUint64", "internal/synctest.Disassociate[sync.WaitGroup]", "sync.runtime_Semrelease", "sync/atomic.AddInt64", "(*sync.Cond).Broadcast", "(*sync.copyChecker).check", "sync.runtime_notifyListNotifyAll", "sync/atomic.LoadInt64"], unfollowed := true, recurses := true, named := ["example.com/keen-scheduler/keen-scheduler.ErrClosed"], ifaces := true, apart := false, laid := [("example.com/keen-scheduler/keen-scheduler.ErrClosed", laid_example_com_keen_scheduler_keen_scheduler_ErrClosed)] }
def LawS0018CPushOrderSaid : Prop := lawS0018CPushOrderRow.holds Ybad.pinned (OpenSpec.ofChange lawS0018CPushOrderSpec)

/-- ITS FALSE NEIGHBOUR: 'it returns false'. Refute it at one input. -/
def lawS0018CPushOrderWrong : ChangeSpec := { name := "lawS0018CPushOrder", vars := ["example.com/keen-scheduler/keen-scheduler.ErrClosed"], fn := fun _ => fun
  | [d1, d2, g1] => { results := [.lit (.bool false)], args := [d1, d2], vars := [g1] }
  | _ => none }
def LawS0018CPushOrderWrongFalsely : Prop := lawS0018CPushOrderRow.holds Ybad.pinned (OpenSpec.ofChange lawS0018CPushOrderWrong)

/-- 'keen-scheduler.LawS0018CAbandonDrop': WHATEVER THE INPUT: true; the input reads as it did. -/
def lawS0018CAbandonDropSpec : ChangeSpec := { name := "lawS0018CAbandonDrop", vars := ["example.com/keen-scheduler/keen-scheduler.ErrClosed"], fn := fun _ => fun
  | [d1, d2, g1] => { results := [.lit (.bool true)], args := [d1, d2], vars := [g1] }
  | _ => none }
def lawS0018CAbandonDropRow : OpenClaim := { program := "ybulkisdoor", sum := "ad16b4d74a78fda1a05c96cd48bc822d892eb96f32748285d1bc5b81510b4308", func := "example.com/keen-scheduler/keen-scheduler.LawS0018CAbandonDrop", spec := "lawS0018CAbandonDrop", inPlace := ["sync/atomic.StoreUint32", "sync/atomic.StoreInt64", "(*internal/sync.Mutex).Lock", "internal/race.Disable", "sync/atomic.CompareAndSwapInt32", "internal/race.Enable", "internal/race.Acquire", "(*internal/sync.Mutex).lockSlow", "internal/sync.runtime_canSpin", "internal/sync.runtime_doSpin", "internal/sync.throw", "internal/sync.runtime_nanotime", "internal/sync.runtime_SemacquireMutex", "sync/atomic.AddInt32", "sync/atomic.LoadUint32", "(*internal/sync.Mutex).Unlock", "internal/race.ReleaseMerge", "(*internal/sync.Mutex).unlockSlow", "internal/sync.fatal", "internal/sync.runtime_Semrelease", "sync/atomic.AddUint64", "(*sync.WaitGroup).Done", "(*sync.WaitGroup).Add", "internal/synctest.IsInBubble", "internal/synctest.Associate[sync.WaitGroup]", "sync.fatal", "sync/atomic.OrUint64", "internal/race.Read", "sync/atomic.LoadUint64", "sync/atomic.StoreUint64", "internal/synctest.Disassociate[sync.WaitGroup]", "sync.runtime_Semrelease", "sync/atomic.AddInt64", "(*sync.Cond).Broadcast", "(*sync.copyChecker).check", "sync.runtime_notifyListNotifyAll", "sync/atomic.LoadInt64"], unfollowed := true, recurses := true, named := ["example.com/keen-scheduler/keen-scheduler.ErrClosed"], ifaces := true, apart := false, laid := [("example.com/keen-scheduler/keen-scheduler.ErrClosed", laid_example_com_keen_scheduler_keen_scheduler_ErrClosed)] }
def LawS0018CAbandonDropSaid : Prop := lawS0018CAbandonDropRow.holds Ybad.pinned (OpenSpec.ofChange lawS0018CAbandonDropSpec)

/-- ITS FALSE NEIGHBOUR: 'it returns false'. Refute it at one input. -/
def lawS0018CAbandonDropWrong : ChangeSpec := { name := "lawS0018CAbandonDrop", vars := ["example.com/keen-scheduler/keen-scheduler.ErrClosed"], fn := fun _ => fun
  | [d1, d2, g1] => { results := [.lit (.bool false)], args := [d1, d2], vars := [g1] }
  | _ => none }
def LawS0018CAbandonDropWrongFalsely : Prop := lawS0018CAbandonDropRow.holds Ybad.pinned (OpenSpec.ofChange lawS0018CAbandonDropWrong)

end Rows
end Go.Proofs.YbulkisDoor
