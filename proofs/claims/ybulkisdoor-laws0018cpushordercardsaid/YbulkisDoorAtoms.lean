import Derived.Test.YbulkisDoorRows
import Derived.Test.YbulkisDoorLocks
import Derived.Conc.MuLone
import Derived.WalkKit
import Derived.RegionCalls
import Derived.ChangeAlike
namespace Go.Proofs.YbulkisDoor
open Go.RowKit Go.MuLone

/-! ### sync/atomic's methods, one goroutine -/
theorem boolLoad (a : Addr) (d : Int) (w : World) (h : w.cell? a = some (.int .u32 d)) :
    Calls Ybad.prog 12 #[.pointer (some a)] w fun e w' => e = .returned (.bool (d != 0)) ∧ w = w' := by
  have hl := run_call_load (P := Ybad.prog) Ybad.func22 (by kernel_rfl) (by kernel_rfl) (by kernel_rfl) .u32 (by kernel_rfl) h
  go_enter Ybad.func12, Ybad.ntmps12
  go_wp2
  go_ret
  exact ⟨rfl, rfl⟩

theorem i64Load (a : Addr) (d : Int) (w : World) (h : w.cell? a = some (.int .i64 d)) :
    Calls Ybad.prog 7 #[.pointer (some a)] w fun e w' => e = .returned (.int .i64 d) ∧ w = w' := by
  have hl := run_call_load (P := Ybad.prog) Ybad.func16 (by kernel_rfl) (by kernel_rfl) (by kernel_rfl) .i64 (by kernel_rfl) h
  go_enter Ybad.func7, Ybad.ntmps7
  go_wp2
  go_ret
  exact ⟨rfl, rfl⟩

theorem u64Load (a : Addr) (d : Int) (w : World) (h : w.cell? a = some (.int .u64 d)) :
    Calls Ybad.prog 8 #[.pointer (some a)] w fun e w' => e = .returned (.int .u64 d) ∧ w = w' := by
  have hl := run_call_load (P := Ybad.prog) Ybad.func17 (by kernel_rfl) (by kernel_rfl) (by kernel_rfl) .u64 (by kernel_rfl) h
  go_enter Ybad.func8, Ybad.ntmps8
  go_wp2
  go_ret
  exact ⟨rfl, rfl⟩

theorem i64Add (a : Addr) (d y s : Int) (w : World) (h : w.cell? a = some (.int .i64 d)) (hz : w.frozen? a = false) (hs : IntKind.i64.wrap (d + y) = s) :
    Calls Ybad.prog 27 #[.pointer (some a), .int .i64 y] w fun e w' => e = .returned (.int .i64 s) ∧ w' = w.setCell a (.int .i64 s) := by
  have hl := run_call_add (P := Ybad.prog) Ybad.func40 (by kernel_rfl) (by kernel_rfl) (by kernel_rfl) .i64 (by kernel_rfl) (y := y) (s := s) h hz (by subst hs; simp [go_sem])
  go_enter Ybad.func27, Ybad.ntmps27
  go_wp2
  go_ret
  exact ⟨rfl, rfl⟩

theorem u64Add (a : Addr) (d y s : Int) (w : World) (h : w.cell? a = some (.int .u64 d)) (hz : w.frozen? a = false) (hs : IntKind.u64.wrap (d + y) = s) :
    Calls Ybad.prog 24 #[.pointer (some a), .int .u64 y] w fun e w' => e = .returned (.int .u64 s) ∧ w' = w.setCell a (.int .u64 s) := by
  have hl := run_call_add (P := Ybad.prog) Ybad.func36 (by kernel_rfl) (by kernel_rfl) (by kernel_rfl) .u64 (by kernel_rfl) (y := y) (s := s) h hz (by subst hs; simp [go_sem])
  go_enter Ybad.func24, Ybad.ntmps24
  go_wp2
  go_ret
  exact ⟨rfl, rfl⟩

theorem boolStore (a : Addr) (x : Value) (w : World) (hc : w.cell? a = some x) (hz : w.frozen? a = false) :
    Calls Ybad.prog 9 #[.pointer (some a), .bool true] w fun e w' => e = .returned (.tuple #[]) ∧ w' = w.drew.setCell a (.int .u32 1) := by
  have hc' : w.drew.cell? a = some x := by go_simp
  have hz' : w.drew.frozen? a = false := by go_simp
  have hst := run_call_store (P := Ybad.prog) Ybad.func18 (by kernel_rfl) (by kernel_rfl) (by kernel_rfl) (by kernel_rfl) (k := .u32) (y := 1) hc' hz'
  go_enter Ybad.func9, Ybad.ntmps9
  go_wp2
  go_region_calls
  all_goals (go_end0; exact ⟨rfl, rfl⟩)

theorem i64Store (a : Addr) (x : Value) (y : Int) (w : World) (hc : w.cell? a = some x) (hz : w.frozen? a = false) :
    Calls Ybad.prog 10 #[.pointer (some a), .int .i64 y] w fun e w' => e = .returned (.tuple #[]) ∧ w' = w.setCell a (.int .i64 y) := by
  have hst := run_call_store (P := Ybad.prog) Ybad.func20 (by kernel_rfl) (by kernel_rfl) (by kernel_rfl) (by kernel_rfl) (k := .i64) (y := y) hc hz
  go_enter Ybad.func10, Ybad.ntmps10
  go_wp2
  go_end0
  exact ⟨rfl, rfl⟩
end Go.Proofs.YbulkisDoor
