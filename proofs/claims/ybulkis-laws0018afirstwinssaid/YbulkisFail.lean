import Derived.Test.YbulkisOnce
namespace Go.Proofs.Ybulkis
open Go.RowKit Go.MuLone

set_option maxRecDepth 100000 in
set_option maxHeartbeats 1600000 in
/-- '(*sync.Once).Do', not yet done, the lock free. -/
theorem do_first (x pe pg : Addr) (G L : Nat) (x8 : Value) (w : World) (hL : L < w.heap.size) (hG : G < w.heap.size) (hLG : L ≠ G) (hGe : pe.block ≠ G) (hGg : pg.block ≠ G) (hLe : pe.block ≠ L) (hLg : pg.block ≠ L) (hse : pe.block < w.heap.size) (hsg : pg.block < w.heap.size)
    (he : w.cell? pe = some (.iface 54 (.pointer (some x)))) (hg : w.cell? pg = some (.pointer (some ⟨G, 0, none⟩)))
    (h2 : w.cell? ⟨G, 2, none⟩ = some (.func (.func 4) #[] #[.pointer (some ⟨L, 0, none⟩)])) (h5 : w.cell? ⟨G, 5, none⟩ = some (.int .u32 0)) (h6 : w.cell? ⟨G, 6, none⟩ = some (.int .i32 0)) (h8 : w.cell? ⟨G, 8, none⟩ = some x8)
    (f5 : w.frozen? ⟨G, 5, none⟩ = false) (f6 : w.frozen? ⟨G, 6, none⟩ = false) (f8 : w.frozen? ⟨G, 8, none⟩ = false)
    (hc : w.cell? ⟨L, 0, none⟩ = some (.slice none 0 0)) (hz : w.frozen? ⟨L, 0, none⟩ = false) :
    Calls Yba.prog 7 #[.pointer (some ⟨G, 5, none⟩), .func (.func 8) #[] #[.pointer (some pe), .pointer (some pg)]] w fun r w' => r = .returned (.tuple #[]) ∧ ∃ g cap, w.heap.size ≤ g ∧ w'.cell? ⟨L, 0, none⟩ = some (.slice (some ⟨g, 0, none⟩) 1 cap) ∧ w'.cell? ⟨g, 0, none⟩ = some (.iface 54 (.pointer (some x))) ∧
      w'.cell? ⟨G, 8, none⟩ = some (.iface 54 (.pointer (some x))) ∧ w'.cell? ⟨G, 5, none⟩ = some (.int .u32 1) ∧ (∀ B, B ≤ L → B ≤ G → Below B w w') := by
  have hl := run_call_load (P := Yba.prog) Yba.func11 (by kernel_rfl) (by kernel_rfl) (by kernel_rfl) .u32 (by kernel_rfl) h5
  have hnot : ∀ (x : Bool) (w : World), (Op.unary .not (.bool x)).run Yba.prog w = .ok (.bool (!x)) w := fun _ _ => rfl
  go_enter Yba.func7, Yba.ntmps7
  go_wp2_with (first
    | (go_at_call 10; refine (slow_first x pe pg G L x8 _ hL hG hLG hGe hGg hLe hLg hse hsg he hg h2 h5 h6 h8 f5 f6 f8 hc hz).mono ?_; rintro e w' ⟨rfl, hq⟩)
    | (go_at_call 9; go_in))
  go_end0
  exact ⟨rfl, hq⟩

/-- '(*sync.Once).Do', done already. -/
theorem do_done (a : Addr) (fv : Value) (w : World) (h0 : w.cell? a = some (.int .u32 1)) :
    Calls Yba.prog 7 #[.pointer (some a), fv] w fun e w' => e = .returned (.tuple #[]) ∧ w = w' := by
  have hl := run_call_load (P := Yba.prog) Yba.func11 (by kernel_rfl) (by kernel_rfl) (by kernel_rfl) .u32 (by kernel_rfl) h0
  have hnot : ∀ (x : Bool) (w : World), (Op.unary .not (.bool x)).run Yba.prog w = .ok (.bool (!x)) w := fun _ _ => rfl
  go_enter Yba.func7, Yba.ntmps7
  go_wp2
  go_end0
  exact ⟨rfl, rfl⟩

/-- 'fail(nil)': nothing is laid but the two boxed parameters. -/
theorem fail_nil (a : Addr) (w : World) :
    Calls Yba.prog 6 #[.pointer (some a), .nilIface] w fun e w' => e = .returned (.tuple #[]) ∧ w' = (w.alloc (.cells #[.pointer (some a)] 24)).alloc (.cells #[.nilIface] 26) := by
  go_enter Yba.func6, Yba.ntmps6
  go_wp2
  refine bodyPost_ret (results_none rfl _ _ _) rfl ?_
  exact ⟨rfl, rfl⟩

theorem fail_done (x : Addr) (G : Nat) (w : World) (hG : G < w.heap.size) (h5 : w.cell? ⟨G, 5, none⟩ = some (.int .u32 1)) :
    Calls Yba.prog 6 #[.pointer (some ⟨G, 0, none⟩), .iface 54 (.pointer (some x))] w fun e w' => e = .returned (.tuple #[]) ∧ w' = (w.alloc (.cells #[.pointer (some ⟨G, 0, none⟩)] 24)).alloc (.cells #[.iface 54 (.pointer (some x))] 26) := by
  have h5' : ((w.alloc (.cells #[.pointer (some ⟨G, 0, none⟩)] 24)).alloc (.cells #[.iface 54 (.pointer (some x))] 26)).cell? ⟨G, 5, none⟩ = some (.int .u32 1) := by
    rw [World.cell?_alloc_past _ _ _ (by simp; omega), World.cell?_alloc_past _ _ _ hG]; exact h5
  go_enter Yba.func6, Yba.ntmps6
  go_wp2_with (go_at_call 7; refine (do_done ⟨G, 5, none⟩ _ _ h5').mono ?_; rintro e w' ⟨rfl, rfl⟩)
  go_end0
  exact ⟨rfl, rfl⟩

set_option maxRecDepth 100000 in
set_option maxHeartbeats 1600000 in
theorem fail_first (x : Addr) (G L : Nat) (x8 : Value) (w : World) (hL : L < w.heap.size) (hG : G < w.heap.size) (hLG : L ≠ G)
    (h2 : w.cell? ⟨G, 2, none⟩ = some (.func (.func 4) #[] #[.pointer (some ⟨L, 0, none⟩)])) (h5 : w.cell? ⟨G, 5, none⟩ = some (.int .u32 0)) (h6 : w.cell? ⟨G, 6, none⟩ = some (.int .i32 0)) (h8 : w.cell? ⟨G, 8, none⟩ = some x8)
    (f5 : w.frozen? ⟨G, 5, none⟩ = false) (f6 : w.frozen? ⟨G, 6, none⟩ = false) (f8 : w.frozen? ⟨G, 8, none⟩ = false)
    (hc : w.cell? ⟨L, 0, none⟩ = some (.slice none 0 0)) (hz : w.frozen? ⟨L, 0, none⟩ = false) :
    Calls Yba.prog 6 #[.pointer (some ⟨G, 0, none⟩), .iface 54 (.pointer (some x))] w fun r w' => r = .returned (.tuple #[]) ∧ ∃ g cap, w.heap.size ≤ g ∧ w'.cell? ⟨L, 0, none⟩ = some (.slice (some ⟨g, 0, none⟩) 1 cap) ∧ w'.cell? ⟨g, 0, none⟩ = some (.iface 54 (.pointer (some x))) ∧
      w'.cell? ⟨G, 8, none⟩ = some (.iface 54 (.pointer (some x))) ∧ w'.cell? ⟨G, 5, none⟩ = some (.int .u32 1) ∧ (∀ B, B ≤ L → B ≤ G → Below B w w') := by
  have sz : ((w.alloc (.cells #[.pointer (some ⟨G, 0, none⟩)] 24)).alloc (.cells #[.iface 54 (.pointer (some x))] 26)).heap.size = w.heap.size + 2 := by simp
  have ce : ((w.alloc (.cells #[.pointer (some ⟨G, 0, none⟩)] 24)).alloc (.cells #[.iface 54 (.pointer (some x))] 26)).cell? ⟨w.heap.size + 1, 0, none⟩ = some (.iface 54 (.pointer (some x))) := by simp
  have cg : ((w.alloc (.cells #[.pointer (some ⟨G, 0, none⟩)] 24)).alloc (.cells #[.iface 54 (.pointer (some x))] 26)).cell? ⟨w.heap.size, 0, none⟩ = some (.pointer (some ⟨G, 0, none⟩)) := by
    rw [World.cell?_alloc_past _ _ _ (by simp)]; simp
  have bb : ∀ B, B ≤ w.heap.size → Below B w ((w.alloc (.cells #[.pointer (some ⟨G, 0, none⟩)] 24)).alloc (.cells #[.iface 54 (.pointer (some x))] 26)) := fun B hB => ((Below.refl _ _).alloc hB _).alloc (by simp; omega) _
  have kc : ∀ a : Addr, a.block < w.heap.size → ((w.alloc (.cells #[.pointer (some ⟨G, 0, none⟩)] 24)).alloc (.cells #[.iface 54 (.pointer (some x))] 26)).cell? a = w.cell? a := fun a ha => (bb _ (Nat.le_refl _)).cell ha
  have kf : ∀ a : Addr, a.block < w.heap.size → ((w.alloc (.cells #[.pointer (some ⟨G, 0, none⟩)] 24)).alloc (.cells #[.iface 54 (.pointer (some x))] 26)).frozen? a = w.frozen? a := fun a ha => (bb _ (Nat.le_refl _)).frozen ha
  go_enter Yba.func6, Yba.ntmps6
  go_wp2_with fail
  refine (do_first x ⟨w.heap.size + 1, 0, none⟩ ⟨w.heap.size, 0, none⟩ G L x8 _ (by rw [sz]; omega) (by rw [sz]; omega) hLG (by simp; omega) (by simp; omega) (by simp; omega) (by simp; omega) (by rw [sz]; simp) (by rw [sz]; simp) ce cg
    ((kc _ hG).trans h2) ((kc _ hG).trans h5) ((kc _ hG).trans h6) ((kc _ hG).trans h8) ((kf _ hG).trans f5) ((kf _ hG).trans f6) ((kf _ hG).trans f8) ((kc _ hL).trans hc) ((kf _ hL).trans hz)).mono ?_
  rintro e w' ⟨rfl, g, cap, p1, p2, p3, p4, p5, p6⟩
  go_wp2
  go_end0
  exact ⟨rfl, g, cap, by omega, p2, p3, p4, p5, fun B q1 q2 => (bb B (by omega)).trans (p6 B q1 q2)⟩
end Go.Proofs.Ybulkis
