import Derived.Test.YbulkisDoorQueue
namespace Go.Proofs.YbulkisDoor
open Go.RowKit Go.MuLone

theorem Queue.kept {S M : Nat} {B : Nat → Nat} {n : Nat} {P : Nat → Nat} {w w' : World} (h : Queue S M B n P w)
    (hc : ∀ a v, w.cell? a = some v → a ≠ ⟨S, 1, none⟩ → w'.cell? a = some v) (hf : ∀ a, a.block < w.heap.size → w'.frozen? a = w.frozen? a) : Queue S M B n P w' := by
  have hS : S < w.heap.size := lt_of_cell h.c9
  obtain ⟨v0, hv0⟩ := h.room 0 (by omega)
  have hl0 := lt_of_cell hv0
  refine ⟨h.b0, h.sm, hc _ _ h.c9 (by simp), hc _ _ h.c4 (by simp), hc _ _ h.c3 (by simp), fun i hi => ?_, fun j hj => ?_, fun j hj => ?_, fun j => ?_, fun j => ?_, h.lo, h.inj⟩
  · exact hc _ _ (h.tasks i hi) (h.segNe _ _ _ (by omega) (by omega))
  · exact hc _ _ (h.next j hj) (h.segNe _ _ _ (by omega) (by omega))
  · obtain ⟨v, hv⟩ := h.room j hj
    exact ⟨v, hc _ _ hv (h.segNe _ _ _ (Nat.le_refl _) (by omega))⟩
  · exact (hf ⟨_, j, none⟩ hl0).trans (h.froz j)
  · exact (hf ⟨_, j, none⟩ hS).trans (h.frozS j)

theorem Queue.mu {S M : Nat} {B : Nat → Nat} {n : Nat} {P : Nat → Nat} {w : World} (h : Queue S M B n P w) (v : Value) : Queue S M B n P (w.setCell ⟨S, 1, none⟩ v) :=
  h.kept (fun _ _ hu ha => (World.cell?_setCell_other _ _ _ _ (Ne.symm ha)).trans hu) (fun _ _ => by simp)

theorem Queue.below {S M : Nat} {B : Nat → Nat} {n : Nat} {P : Nat → Nat} {w w' : World} (h : Queue S M B n P w) (hb : Below w.heap.size w w') : Queue S M B n P w' :=
  h.kept (fun _ _ hu _ => (hb.cell (lt_of_cell hu)).trans hu) (fun _ ha => hb.frozen ha)

theorem Queue.drew {S M : Nat} {B : Nat → Nat} {n : Nat} {P : Nat → Nat} {w : World} (h : Queue S M B n P w) : Queue S M B n P w.drew :=
  h.kept (fun _ _ hu _ => (World.cell?_drew _ _).trans hu) (fun _ _ => World.frozen?_drew _ _)

set_option maxHeartbeats 800000 in
/-- 'push'. -/
theorem push_any (S M : Nat) (B : Nat → Nat) (n : Nat) (P : Nat → Nat) (w : World) (h : Queue S M B n P w) (hM : M ≤ w.heap.size) (hn : n ≤ 9999) :
    Calls Ybad.prog 15 #[.pointer (some ⟨S, 3, none⟩), .pointer (some ⟨P n, 0, none⟩)] w fun e w' => e = .returned (.tuple #[]) ∧ ∃ B', Queue S M B' (n + 1) P w' ∧ Kept S M w w' := by
  by_cases h0 : n = 0
  · subst h0
    have hR := h.readyA
    have h3 := h.c3
    rw [if_pos rfl] at h3
    have hK := (Kept.refl S M w).setS 3 (.pointer (some ⟨S, 10, none⟩)) (by omega) (by omega)
    generalize hu : w.setCell ⟨S, 3, none⟩ (.pointer (some ⟨S, 10, none⟩)) = u at hR hK
    refine (push_A S _ _ _ 0 ⟨P 0, 0, none⟩ w (by omega) h3 (by simpa using h.c4) (h.frozS 3) u hu (hR.tail (.pointer (some ⟨P 0, 0, none⟩)))).mono ?_
    rintro e w' ⟨rfl, rfl⟩
    exact ⟨rfl, B, hR.filled.drew, (hK.fill _ _ _ _ _ h.sm (.inl ⟨h.b0, rfl⟩) (by omega)).drew⟩
  by_cases h1 : n % 256 = 0
  · have hR := h.readyC h0 h1 hM
    have h3 := h.c3
    have h4 := h.c4
    rw [if_neg h0] at h3 h4
    rw [show (n - 1) % 256 + 1 = 256 by omega] at h4
    obtain ⟨v, hv⟩ := h.room 256 (by omega)
    have hK := Kept.alloc ((((Kept.refl S M w).setSeg (B ((n - 1) / 256)) (so ((n - 1) / 256)) 256 (.pointer (some ⟨w.heap.size, 0, none⟩)) h.sm (h.segAt _ (Nat.le_refl _)) (by omega)).setS 3 (.pointer (some ⟨w.heap.size, 0, none⟩)) (by omega) (by omega)).setS 4 (.int .i64 0) (by omega) (by omega)) (.cells Ybad.zeroCells40 40) h.sm (by simpa [World.setCell] using hM)
    have hb' : M ≤ (fun j => if j = n / 256 then w.heap.size else B j) (n / 256) := by simpa using hM
    generalize (fun j => if j = n / 256 then w.heap.size else B j) = B' at hR hb'
    generalize hu : (((w.setCell ⟨B ((n - 1) / 256), so ((n - 1) / 256) + 256, none⟩ (.pointer (some ⟨w.heap.size, 0, none⟩))).setCell ⟨S, 3, none⟩ (.pointer (some ⟨w.heap.size, 0, none⟩))).setCell ⟨S, 4, none⟩ (.int .i64 0)).alloc (.cells Ybad.zeroCells40 40) = u at hR hK
    refine (push_C S (B' (n / 256)) (so (n / 256)) (B ((n - 1) / 256)) (so ((n - 1) / 256)) (n % 256) n ⟨P n, 0, none⟩ w v (by omega) (lt_of_cell h.c9) (lt_of_cell hv) h3 h4 (h.frozS 3) (h.frozS 4) hv (h.froz _) u hu (hR.tail (.pointer (some ⟨P n, 0, none⟩)))).mono ?_
    rintro e w' ⟨rfl, rfl⟩
    exact ⟨rfl, B', hR.filled.drew, (hK.fill _ _ _ _ _ h.sm (.inr hb') (by omega)).drew⟩
  · have hR := h.readyB h1
    refine (push_B S _ _ _ n ⟨P n, 0, none⟩ w (by omega) (hR.tail (.pointer (some ⟨P n, 0, none⟩)))).mono ?_
    rintro e w' ⟨rfl, rfl⟩
    refine ⟨rfl, B, hR.filled.drew, ((Kept.refl S M w).fill _ _ _ _ _ h.sm ?_ (by omega)).drew⟩
    have := h.segAt ((n - 1) / 256) (Nat.le_refl _)
    rwa [show (n - 1) / 256 = n / 256 by omega] at this

set_option maxRecDepth 100000 in
set_option maxHeartbeats 1600000 in
/-- 'pushShared' on a scheduler that is not abandoned. -/
theorem shared_any (S M : Nat) (B : Nat → Nat) (n g k : Nat) (P : Nat → Nat) (w : World) (h : Queue S M B n P w) (hM : M ≤ w.heap.size) (hn : n + k ≤ 9999) (hg : g < M) (hgS : g ≠ S)
    (hT : ∀ q, q < k → w.cell? ⟨g, q, none⟩ = some (.pointer (some ⟨P (n + q), 0, none⟩))) (h1 : w.cell? ⟨S, 1, none⟩ = some (.int .i32 0)) (h275 : w.cell? ⟨S, 275, none⟩ = some (.int .u32 0)) :
    Calls Ybad.prog 6 #[.pointer (some ⟨S, 0, none⟩), .slice (some ⟨g, 0, none⟩) k k] w fun e w' => e = .returned (.tuple #[]) ∧ ∃ B', Queue S M B' (n + k) P w' ∧ Kept S M w w' := by
  have hq := h.mu (.int .i32 1)
  have l1 : (w.setCell ⟨S, 1, none⟩ (.int .i32 1)).cell? ⟨S, 1, none⟩ = some (.int .i32 1) := World.cell?_setCell_same _ _ _ h1
  have l275 : (w.setCell ⟨S, 1, none⟩ (.int .i32 1)).cell? ⟨S, 275, none⟩ = some (.int .u32 0) := (World.cell?_setCell_other _ _ _ _ (by simp)).trans h275
  have lk : ∀ j, j ≠ 1 → (w.setCell ⟨S, 1, none⟩ (.int .i32 1)).cell? ⟨S, j, none⟩ = w.cell? ⟨S, j, none⟩ := fun j hj => World.cell?_setCell_other _ _ _ _ (offNe _ _ hj)
  have lb : ∀ k, k ≠ S → (w.setCell ⟨S, 1, none⟩ (.int .i32 1)).heap[k]? = w.heap[k]? := fun k hk => Below.heap_setCell _ _ _ _ hk
  have ls : (w.setCell ⟨S, 1, none⟩ (.int .i32 1)).heap.size = w.heap.size := by simp [World.setCell]
  have lo : (w.setCell ⟨S, 1, none⟩ (.int .i32 1)).os = w.os ∧ (w.setCell ⟨S, 1, none⟩ (.int .i32 1)).tape = w.tape ∧ (w.setCell ⟨S, 1, none⟩ (.int .i32 1)).output = w.output := ⟨rfl, rfl, rfl⟩
  have hz1 := h.frozS 1
  have hkk : k ≤ 9999 := by omega
  go_enter Ybad.func6, Ybad.ntmps6
  go_wp2_with (first
    | (go_at_call 11; refine (lock_free Ybad.muLib ⟨S, 1, none⟩ _ h1 hz1).mono ?_; rintro e w' ⟨rfl, rfl⟩)
    | (go_at_call 12; refine (boolLoad ⟨S, 275, none⟩ 0 _ l275).mono ?_; rintro e w' ⟨rfl, rfl⟩))
  generalize w.setCell ⟨S, 1, none⟩ (.int .i32 1) = w1 at *
  go_loopw [23] (fun i wr => ∃ (j : Nat) (B' : Nat → Nat), j ≤ k ∧ i = .int .i64 j ∧ Queue S M B' (n + j) P wr ∧ Kept S M w1 wr) (fun i _ => k - (intOf i).toNat)
  case atStart => exact ⟨0, B, Nat.zero_le _, rfl, hq, Kept.refl _ _ _⟩
  case round =>
    obtain ⟨j, B', hj, rfl, hQ, hK⟩ := hrel
    by_cases hlt : j < k
    · have hcj : wr.cell? ⟨g, j, none⟩ = some (.pointer (some ⟨P (n + j), 0, none⟩)) := (World.cell?_of_block (a := ⟨g, j, none⟩) ((hK.block g hg hgS).trans (lb g hgS))).trans (hT j hlt)
      have hMr : M ≤ wr.heap.size := by have := hK.size; omega
      clear hT lk lb hq
      go_wp2_with (go_at_call 15; refine (push_any S M B' (n + j) P _ hQ hMr (by omega)).mono ?_; rintro e w' ⟨rfl, B2, hQ2, hK2⟩)
      go_roundw
      case rel => exact ⟨j + 1, B2, by omega, by go_num, hQ2, hK.trans hK2⟩
      case measure => simp [intOf]; omega
    · obtain rfl : j = k := by omega
      have lu : wr.cell? ⟨S, 1, none⟩ = some (.int .i32 1) := (hK.cell 1 (by omega)).trans l1
      go_wp2_with fail
      refine (unlock_held Ybad.muLib ⟨S, 1, none⟩ _ lu (hQ.frozS 1)).mono ?_
      rintro e w' ⟨rfl, rfl⟩
      go_wp2
      go_end0
      refine ⟨rfl, B', hQ.mu _, hK.os.trans lo.1, hK.tape.trans lo.2.1, hK.output.trans lo.2.2, ?_, fun i hi hs => ?_, fun i hi => ?_⟩
      · have := hK.size; simp [World.setCell]; omega
      · rw [Below.heap_setCell _ _ _ _ hs]; exact (hK.block i hi hs).trans (lb i hs)
      · by_cases e : i = 1
        · subst e; rw [World.cell?_setCell_same _ _ _ lu]; exact h1.symm
        · rw [World.cell?_setCell_other _ _ _ _ (offNe _ _ e)]; exact (hK.cell i hi).trans (lk i e)
end Go.Proofs.YbulkisDoor
