import Derived.Test.YbulkisDoorDrop
namespace Go.Proofs.YbulkisDoor
open Go.RowKit Go.MuLone

theorem Ybad.info37 : (Ybad.prog.info? 37).map (fun i => (i.zero, i.size, i.bytes)) = some (some (.pointer none), 1, 8) := by kernel_rfl

/-- n tasks in a row of block g; none of them belongs to a group. -/
def Tasks (B g n : Nat) (P : Nat → Nat) (w : World) : Prop :=
  ∀ q, q < n → w.cell? ⟨g, q, none⟩ = some (.pointer (some ⟨P q, 0, none⟩)) ∧ w.cell? ⟨P q, 2, none⟩ = some (.pointer none) ∧ B ≤ P q

theorem Tasks.kept {B g n : Nat} {P : Nat → Nat} {w w' : World} (h : Tasks B g n P w) (hb : Below w.heap.size w w') : Tasks B g n P w' := fun q hq =>
  have ⟨h1, h2, h3⟩ := h q hq
  ⟨(hb.cell (lt_of_cell h1)).trans h1, (hb.cell (lt_of_cell h2)).trans h2, h3⟩

/-- one task more is made and stored. -/
theorem Tasks.next {B g j k : Nat} {P : Nat → Nat} {wr : World} (h : Tasks B g j P wr) (hgB : g < B) (hB : B ≤ wr.heap.size) (hj : j < k) (hc : ∀ q, q < k → ∃ v, wr.cell? ⟨g, q, none⟩ = some v) (hf : ∀ q, wr.frozen? ⟨g, q, none⟩ = false) :
    Tasks B g (j + 1) (fun q => if q = j then wr.heap.size else P q) ((wr.alloc (.cells #[.nilFunc, .nilIface, .pointer none] 83)).setCell ⟨g, j, none⟩ (.pointer (some ⟨wr.heap.size, 0, none⟩))) ∧
    (∀ q, q < k → ∃ v, ((wr.alloc (.cells #[.nilFunc, .nilIface, .pointer none] 83)).setCell ⟨g, j, none⟩ (.pointer (some ⟨wr.heap.size, 0, none⟩))).cell? ⟨g, q, none⟩ = some v) ∧
    (∀ q, ((wr.alloc (.cells #[.nilFunc, .nilIface, .pointer none] 83)).setCell ⟨g, j, none⟩ (.pointer (some ⟨wr.heap.size, 0, none⟩))).frozen? ⟨g, q, none⟩ = false) := by
  have hb : Below wr.heap.size wr (wr.alloc (.cells #[.nilFunc, .nilIface, .pointer none] 83)) := (Below.refl _ _).alloc (Nat.le_refl _) _
  have hg : g < wr.heap.size := by omega
  have hne : ∀ q, q ≠ j → (⟨g, j, none⟩ : Addr) ≠ ⟨g, q, none⟩ := fun q hq e => hq (congrArg Addr.off e).symm
  have hnb : ∀ b o, g ≠ b → (⟨g, j, none⟩ : Addr) ≠ ⟨b, o, none⟩ := fun q o hq e => hq (congrArg Addr.block e)
  obtain ⟨v, hv⟩ := hc j hj
  have hv' := (hb.cell (p := ⟨g, j, none⟩) hg).trans hv
  refine ⟨fun q hq => ?_, fun q hq => ?_, fun q => ?_⟩
  · by_cases e : q = j
    · subst e
      refine ⟨by simpa using World.cell?_setCell_same _ _ _ hv', ?_, by simpa using hB⟩
      rw [World.cell?_setCell_other _ _ _ _ (hnb _ _ (by simp; omega))]
      simp
    · obtain ⟨h1, h2, h3⟩ := h q (by omega)
      simp only [if_neg e]
      refine ⟨?_, ?_, h3⟩
      · rw [World.cell?_setCell_other _ _ _ _ (hne q e)]; exact (hb.cell (lt_of_cell h1)).trans h1
      · rw [World.cell?_setCell_other _ _ _ _ (hnb _ _ (by omega))]; exact (hb.cell (lt_of_cell h2)).trans h2
  · by_cases e : q = j
    · subst e; exact ⟨_, World.cell?_setCell_same _ _ _ hv'⟩
    · obtain ⟨u, hu⟩ := hc q hq
      exact ⟨u, by rw [World.cell?_setCell_other _ _ _ _ (hne q e)]; exact (hb.cell (lt_of_cell hu)).trans hu⟩
  · rw [World.frozen?_setCell]; exact (hb.frozen (p := ⟨g, q, none⟩) hg).trans (hf q)

set_option maxRecDepth 100000 in
set_option maxHeartbeats 1600000 in
theorem tasks_any (k : Nat) (hk : k ≤ 1000) (w : World) :
    Calls Ybad.prog 5 #[.int .i64 k] w fun e w' => ∃ g P, e = .returned (.slice (some ⟨g, 0, none⟩) k k) ∧ w.heap.size ≤ g ∧ g < w'.heap.size ∧ Tasks (w.heap.size + 1) g k P w' ∧ Below w.heap.size w w' := by
  obtain ⟨i0, hi, hz0, hz1, hz2⟩ := info_parts Ybad.info37
  go_enter Ybad.func5, Ybad.ntmps5
  go_wp2_with (at_make; refine wpList_make_full _ rfl _ _ 69 rfl w.heap.size 37 i0 (.pointer none) 1 Ybad.underlying69 hi hz0 hz1 .i64 .i64 _ _ k rfl rfl rfl rfl (by rw [hz2]; omega) (by unfold maxLen; omega) (Nat.le_refl _) ?_; intro w1 hown hgrow)
  have hB1 : Below w.heap.size w w1 := (Below.refl _ _).grown hgrow (Nat.le_refl _) (fun k h => by cases h)
  have hg1 : w.heap.size < w1.heap.size := by
    obtain ⟨g, cap, h1, h2, h3⟩ : ∃ g cap, Value.slice (some ⟨w.heap.size, 0, none⟩) k k = .slice (some ⟨g, 0, none⟩) k cap ∧ w.heap.size ≤ g ∧ g < w1.heap.size := by
      rcases hown.2 with ⟨h, _⟩ | ⟨g, cap, cur, hv, hb, hg, _⟩
      · cases h
      · refine ⟨g, cap, hv, hb, ?_⟩
        rcases Nat.lt_or_ge g w1.heap.size with hlt | hge
        · exact hlt
        · rw [Array.getElem?_eq_none hge] at hg; cases hg
    simp at h1
    omega
  have hl := hown.1
  have hc1 : ∀ q, q < k → ∃ v, w1.cell? ⟨w.heap.size, q, none⟩ = some v := fun q hq =>
    ⟨_, (hown.cellAt q (by omega)).trans (List.getElem?_eq_getElem (by omega))⟩
  have hf1 : ∀ q, w1.frozen? ⟨w.heap.size, q, none⟩ = false := fun q => hown.frozenAt q
  clear hown hgrow hl
  go_wp2
  go_loopw [4] (fun i wr => ∃ (j : Nat) (P : Nat → Nat), j ≤ k ∧ i = .int .i64 j ∧ Below w.heap.size w wr ∧ w.heap.size < wr.heap.size ∧ Tasks (w.heap.size + 1) w.heap.size j P wr ∧ (∀ q, q < k → ∃ v, wr.cell? ⟨w.heap.size, q, none⟩ = some v) ∧ (∀ q, wr.frozen? ⟨w.heap.size, q, none⟩ = false)) (fun i _ => k - (intOf i).toNat)
  case atStart => exact ⟨0, fun _ => 0, Nat.zero_le _, rfl, hB1, hg1, fun q hq => absurd hq (Nat.not_lt_zero q), hc1, hf1⟩
  case round =>
    obtain ⟨j, P, hj, rfl, hB, hg, hT, hc, hf⟩ := hrel
    clear hc1 hf1 hB1 hg1
    by_cases hlt : j < k
    · have hN := hT.next (Nat.lt_succ_self _) (by omega) hlt hc hf
      have hBN : Below w.heap.size w ((wr.alloc (.cells #[.nilFunc, .nilIface, .pointer none] 83)).setCell ⟨w.heap.size, j, none⟩ (.pointer (some ⟨wr.heap.size, 0, none⟩))) := (hB.alloc (by omega) _).setCell (by simp) _
      rw [World.setCell_alloc_past _ _ _ _ hg] at hN hBN
      have HN : Hid (_ ∧ _ ∧ _) := hN
      have HB : Hid (Below _ _ _) := hBN
      obtain ⟨v, hv⟩ := hc j hlt
      have hfj := hf j
      have hv' : (wr.alloc (.cells #[.nilFunc, .nilIface, .pointer none] 83)).cell? ⟨w.heap.size, j, none⟩ = some v := by rw [World.cell?_alloc_past _ _ _ hg]; exact hv
      have hf' : (wr.alloc (.cells #[.nilFunc, .nilIface, .pointer none] 83)).frozen? ⟨w.heap.size, j, none⟩ = false := by rw [World.frozen?_alloc_past _ _ _ hg]; exact hfj
      clear hN hBN hc hf hT hB
      go_wp2
      go_roundw
      case rel => exact ⟨j + 1, _, by omega, by go_num, HB.out, by simp [World.setCell]; omega, HN.out⟩
      case measure => simp [intOf]; omega
    · obtain rfl : j = k := by omega
      go_wp2
      go_ret
      exact ⟨w.heap.size, P, rfl, Nat.le_refl _, hg, hT, hB⟩
end Go.Proofs.YbulkisDoor
