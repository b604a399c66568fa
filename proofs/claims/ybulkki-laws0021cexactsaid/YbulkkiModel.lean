import Derived.Test.YbulkkiKc
namespace Go.Proofs.Ybulkki
open Go.RowKit

/-- The thirty-two bytes, CK then IK. -/
def allB (C I : Nat → Int) (j : Nat) : Int := if j < 16 then C j else I (j - 16)
/-- .. after i rounds of the first loop. -/
def allTo (C I : Nat → Int) (i j : Nat) : Int := if j < 16 then (if j < i then C j else 0) else (if j - 16 < i then I (j - 16) else 0)
theorem allTo_16 (C I : Nat → Int) (j : Nat) (h : j < 32) : allTo C I 16 j = allB C I j := by
  unfold allTo allB
  by_cases e : j < 16
  · rw [if_pos e, if_pos e, if_pos e]
  · rw [if_neg e, if_neg e, if_pos (by omega)]
theorem allTo_0 (C I : Nat → Int) (j : Nat) : allTo C I 0 j = 0 := by
  unfold allTo; by_cases e : j < 16 <;> simp [e]
/-- Lane l after i rounds of the second loop. -/
def lane (A : Nat → Int) : Nat → Nat → Int
  | 0, _ => 0
  | i + 1, l => if l = i % 8 then x8 (lane A i l) (A i) else lane A i l

structure MS (w : World) (C I : Nat → Int) (i : Nat) (wr : World) : Prop where
  below : Below w.heap.size w wr
  c : ∀ j, j < 16 → wr.cell? ⟨w.heap.size, j, none⟩ = some (.int .u8 (C j))
  ii : ∀ j, j < 16 → wr.cell? ⟨w.heap.size + 1, j, none⟩ = some (.int .u8 (I j))
  there : wr.there (w.heap.size + 1 + 1) 0 8
  a : ∀ j, j < 32 → wr.cell? ⟨w.heap.size + 1 + 1 + 1, j, none⟩ = some (.int .u8 (allTo C I i j))
  z : ∀ j, wr.frozen? ⟨w.heap.size + 1 + 1 + 1, j, none⟩ = false
  size : wr.heap.size = w.heap.size + 1 + 1 + 1 + 1

theorem MS.step {w : World} {C I : Nat → Int} {i : Nat} {wr : World} (h : MS w C I i wr) (hi : i < 16) :
    MS w C I (i + 1) ((wr.setCell ⟨w.heap.size + 1 + 1 + 1, i, none⟩ (.int .u8 (C i))).setCell ⟨w.heap.size + 1 + 1 + 1, i + 16, none⟩ (.int .u8 (I i))) := by
  have hb := (h.below.setCell (p := ⟨w.heap.size + 1 + 1 + 1, i, none⟩) (by simp <;> omega) (.int .u8 (C i))).setCell (p := ⟨w.heap.size + 1 + 1 + 1, i + 16, none⟩) (by simp <;> omega) (.int .u8 (I i))
  refine ⟨hb, fun j hj => ?_, fun j hj => ?_, fun j hj => ?_, fun j hj => ?_, fun j => ?_, ?_⟩
  · rw [World.cell?_setCell_other _ _ _ _ (blockNe (by omega)), World.cell?_setCell_other _ _ _ _ (blockNe (by omega))]; exact h.c j hj
  · rw [World.cell?_setCell_other _ _ _ _ (blockNe (by omega)), World.cell?_setCell_other _ _ _ _ (blockNe (by omega))]; exact h.ii j hj
  · obtain ⟨h1, h2⟩ := h.there j hj
    rw [World.frozen?_setCell, World.frozen?_setCell, World.cell?_setCell_other _ _ _ _ (blockNe (by omega)), World.cell?_setCell_other _ _ _ _ (blockNe (by omega))]; exact ⟨h1, h2⟩
  · by_cases e : j = i + 16
    · subst e
      have h0 := (World.cell?_setCell_other wr ⟨w.heap.size + 1 + 1 + 1, i, none⟩ ⟨w.heap.size + 1 + 1 + 1, i + 16, none⟩ (.int .u8 (C i)) (offNe (by omega))).trans (h.a (i + 16) hj)
      rw [World.cell?_setCell_same _ _ _ h0]
      unfold allTo
      rw [if_neg (by omega), if_pos (by omega), Nat.add_sub_cancel]
    · rw [World.cell?_setCell_other _ _ _ _ (offNe (Ne.symm e))]
      by_cases e2 : j = i
      · subst e2
        rw [World.cell?_setCell_same _ _ _ (h.a j hj)]
        unfold allTo
        rw [if_pos hi, if_pos (by omega)]
      · rw [World.cell?_setCell_other _ _ _ _ (offNe (Ne.symm e2)), h.a j hj]
        unfold allTo
        by_cases e3 : j < 16
        · rw [if_pos e3, if_pos e3]
          by_cases e4 : j < i
          · rw [if_pos e4, if_pos (by omega)]
          · rw [if_neg e4, if_neg (by omega)]
        · rw [if_neg e3, if_neg e3]
          by_cases e4 : j - 16 < i
          · rw [if_pos e4, if_pos (by omega)]
          · rw [if_neg e4, if_neg (by omega)]
  · rw [World.frozen?_setCell, World.frozen?_setCell]; exact h.z j
  · simpa [World.setCell] using h.size

structure LS (w : World) (A : Nat → Int) (i : Nat) (wr : World) : Prop where
  below : Below w.heap.size w wr
  there : wr.there (w.heap.size + 1 + 1) 0 8
  a : ∀ j, j < 32 → wr.cell? ⟨w.heap.size + 1 + 1 + 1, j, none⟩ = some (.int .u8 (A j))
  o : ∀ l, l < 8 → wr.cell? ⟨w.heap.size + 1 + 1 + 1 + 1, l, none⟩ = some (.int .u8 (lane A i l))
  z : ∀ j, wr.frozen? ⟨w.heap.size + 1 + 1 + 1 + 1, j, none⟩ = false

theorem LS.step {w : World} {A : Nat → Int} {i : Nat} {wr : World} (h : LS w A i wr) :
    LS w A (i + 1) (wr.setCell ⟨w.heap.size + 1 + 1 + 1 + 1, i % 8, none⟩ (.int .u8 (x8 (lane A i (i % 8)) (A i)))).drew := by
  have hb := (h.below.setCell (p := ⟨w.heap.size + 1 + 1 + 1 + 1, i % 8, none⟩) (by simp <;> omega) (.int .u8 (x8 (lane A i (i % 8)) (A i)))).drew
  refine ⟨hb, fun j hj => ?_, fun j hj => ?_, fun j hj => ?_, fun j => ?_⟩
  · obtain ⟨h1, h2⟩ := h.there j hj
    rw [World.cell?_drew, World.frozen?_drew, World.frozen?_setCell, World.cell?_setCell_other _ _ _ _ (blockNe (by omega))]; exact ⟨h1, h2⟩
  · rw [World.cell?_drew, World.cell?_setCell_other _ _ _ _ (blockNe (by omega))]; exact h.a j hj
  · rw [World.cell?_drew, lane]
    by_cases e : j = i % 8
    · subst e
      rw [World.cell?_setCell_same _ _ _ (h.o _ hj), if_pos rfl]
    · rw [World.cell?_setCell_other _ _ _ _ (offNe (Ne.symm e)), h.o j hj, if_neg e]
  · rw [World.frozen?_drew, World.frozen?_setCell]; exact h.z j

theorem zeros32 : (#[.int .u8 0, .int .u8 0, .int .u8 0, .int .u8 0, .int .u8 0, .int .u8 0, .int .u8 0, .int .u8 0, .int .u8 0, .int .u8 0, .int .u8 0, .int .u8 0, .int .u8 0, .int .u8 0, .int .u8 0, .int .u8 0, .int .u8 0, .int .u8 0, .int .u8 0, .int .u8 0, .int .u8 0, .int .u8 0, .int .u8 0, .int .u8 0, .int .u8 0, .int .u8 0, .int .u8 0, .int .u8 0, .int .u8 0, .int .u8 0, .int .u8 0, .int .u8 0] : Array Value) = (arr 32 fun _ => 0).toArray := rfl

set_option maxRecDepth 100000 in
set_option maxHeartbeats 1600000 in
/-- 'zzs0021cmodel'. -/
theorem model_any (C I : Nat → Int) (w : World) :
    Calls Yba.prog 13 #[.agg (arr 16 C).toArray, .agg (arr 16 I).toArray] w fun e w' => e = .returned (.agg (arr 8 (lane (allB C I) 32)).toArray) ∧ Below w.heap.size w w' := by
  go_enter Yba.func13, Yba.ntmps13
  go_wp2_with fail
  go_loopw [6] (fun t wr => ∃ i : Nat, i ≤ 16 ∧ t = .int .i64 i ∧ MS w C I i wr) (fun t _ => 16 - (intOf t).toNat)
  case atStart =>
    refine ⟨0, Nat.zero_le _, rfl, ((((Below.refl _ _).alloc (Nat.le_refl _) _).alloc (by simp) _).alloc (by simp <;> omega) _).alloc (by simp <;> omega) _, fun j hj => ?_, fun j hj => ?_, fun j hj => ?_, fun j hj => ?_, fun j => ?_, by simp⟩
    · rw [World.cell?_alloc_past _ _ _ (by simp <;> omega), World.cell?_alloc_past _ _ _ (by simp <;> omega), World.cell?_alloc_past _ _ _ (by simp), World.cell?_alloc_new, List.getElem?_toArray, arr_at _ _ _ hj]
    · rw [World.cell?_alloc_past _ _ _ (by simp <;> omega), World.cell?_alloc_past _ _ _ (by simp), World.cell?_alloc_at _ _ _ _ (by simp), List.getElem?_toArray, arr_at _ _ _ hj]
    · rw [World.cell?_alloc_past _ _ _ (by simp), World.frozen?_alloc_past _ _ _ (by simp), World.cell?_alloc_at _ _ _ _ (by simp), World.frozen?_alloc_at _ _ _ _ (by simp), zeros8, List.getElem?_toArray, Nat.zero_add, arr_at _ _ _ hj]
      exact ⟨rfl, rfl⟩
    · rw [World.cell?_alloc_at _ _ _ _ (by simp), zeros32, List.getElem?_toArray, arr_at _ _ _ hj, allTo_0]
    · exact World.frozen?_alloc_at _ _ _ _ (by simp)
  case round =>
    obtain ⟨i, hi, rfl, hK⟩ := hrel
    by_cases hlt : i < 16
    · have HS : Hid (MS w C I (i + 1) ((wr.setCell ⟨w.heap.size + 1 + 1 + 1, i, none⟩ (.int .u8 (C i))).setCell ⟨w.heap.size + 1 + 1 + 1, i + 16, none⟩ (.int .u8 (I i)))) := hK.step hlt
      have a1 := hK.c i (by omega)
      have a2 := hK.ii i (by omega)
      have a5 := hK.a i (by omega)
      have a6 := hK.z i
      have a7 := hK.z (i + 16)
      have a8 := hK.a (i + 16) (by omega)
      clear hK
      have b1 : (i : Int) < 16 := by omega
      have b2 : (0 : Int) ≤ (i : Int) := by omega
      have b3 : ((16 : Int) + (i : Int)).toNat = i + 16 := by omega
      have n1 : (wr.setCell ⟨w.heap.size + 1 + 1 + 1, i, none⟩ (.int .u8 (C i))).cell? ⟨w.heap.size + 1, i, none⟩ = some (.int .u8 (I i)) := (World.cell?_setCell_other _ _ _ _ (blockNe (by omega))).trans a2
      go_wp2_with fail
      go_roundw
      case rel => exact ⟨i + 1, by omega, by go_num, HS.out⟩
      case measure => simp [intOf]; omega
    · obtain rfl : i = 16 := by omega
      have hsz := hK.size
      have H0 : Hid (∀ o, o = Obj.cells (arr 8 fun _ => 0).toArray 41 → LS w (allB C I) 0 (wr.alloc o)) := by
        intro o ho
        subst ho
        have hba : Below wr.heap.size wr (wr.alloc (Obj.cells (arr 8 fun _ => 0).toArray 41)) := (Below.refl _ _).alloc (Nat.le_refl _) _
        refine ⟨hK.below.trans (hba.mono (by omega)), fun j hj => ?_, fun j hj => ?_, fun j hj => ?_, fun j => ?_⟩
        · obtain ⟨h1, h2⟩ := hK.there j hj
          rw [hba.cell (by simp only; omega), hba.frozen (by simp only; omega)]; exact ⟨h1, h2⟩
        · rw [hba.cell (by simp only; omega), hK.a j hj, allTo_16 _ _ _ hj]
        · rw [World.cell?_alloc_at _ _ _ _ hsz.symm, List.getElem?_toArray, arr_at _ _ _ hj, lane]
        · exact World.frozen?_alloc_at _ _ _ _ hsz.symm
      clear hK
      go_wp2_with fail
      go_loopw [8] (fun t wx => ∃ i : Nat, i ≤ 32 ∧ t = .int .i64 i ∧ LS w (allB C I) i wx) (fun t _ => 32 - (intOf t).toNat)
      case atStart => exact ⟨0, Nat.zero_le _, rfl, H0.out _ (by rw [← zeros8])⟩
      case round =>
        clear H0 hsz
        obtain ⟨i, hi, rfl, hK⟩ := hrel
        by_cases hlt : i < 32
        · have HS : Hid (LS w (allB C I) (i + 1) (wr.setCell ⟨w.heap.size + 1 + 1 + 1 + 1, i % 8, none⟩ (.int .u8 (x8 (lane (allB C I) i (i % 8)) (allB C I i)))).drew) := hK.step
          have a1 := hK.o (i % 8) (by omega)
          have a2 := hK.a i (by omega)
          have a3 := hK.z (i % 8)
          clear hK
          generalize lane (allB C I) i (i % 8) = p at *
          generalize allB C I i = q at *
          have b1 : (i : Int) < 32 := by omega
          have b2 : (0 : Int) ≤ (i : Int) := by omega
          have b3 : (i : Int) % 8 < 8 := by omega
          have b4 : (0 : Int) ≤ (i : Int) % 8 := by omega
          go_wp2_with fail
          go_region
          go_wp2_with fail
          go_roundw
          case rel => exact ⟨i + 1, by omega, by go_num, HS.out⟩
          case measure => simp [intOf]; omega
        · obtain rfl : i = 32 := by omega
          have hr := arr_range (n := 8) (C := lane (allB C I) 32) (w := wr) (b := w.heap.size + 1 + 1 + 1 + 1) hK.o
          have ht := hK.there
          have hB := hK.below
          clear hK
          go_wp2_with (first | (refine wpList_load_mid rfl 41 _ rfl (w.heap.size + 1 + 1 + 1 + 1) 0 rfl (arr 8 (lane (allB C I) 32)) _ hr Yba.underlying41 rfl size41 ?_) | (refine wpList_store_mid rfl 41 _ _ rfl (w.heap.size + 1 + 1) 0 (arr 8 (lane (allB C I) 32)).toArray rfl rfl ht size41 (all_oneCell_toArray (arr_one _ _)) ?_))
          refine bodyPost_ret (results_cell Yba.results13 _ _ (w.heap.size + 1 + 1) 0 (arr 8 (lane (allB C I) 32)) _ rfl ?_ Yba.underlying41 rfl size41) rfl ⟨rfl, ?_⟩
          · exact World.rangeAt_setCells_same _ _ _ _ ht
          · exact setCells_below _ _ (by omega) _ _ _ _ hB

/-! ### THE PLAIN LAW -/
theorem x8_zero (a : Int) (h0 : 0 ≤ a) (h1 : a ≤ 255) : x8 0 a = a := by
  unfold x8
  rw [u8_xor 0 a (by omega) (by omega) h0 (by omega)]
  simp
  omega
theorem lanes (C I : Nat → Int) (hC : ∀ j, j < 16 → 0 ≤ C j ∧ C j ≤ 255) (l : Nat) (hl : l < 8) : lane (allB C I) 32 l = kcB C I l := by
  have e : lane (allB C I) 32 l = x8 (x8 (x8 (x8 0 (allB C I l)) (allB C I (l + 8))) (allB C I (l + 16))) (allB C I (l + 24)) := by
    match l, hl with
    | 0, _ => rfl
    | 1, _ => rfl
    | 2, _ => rfl
    | 3, _ => rfl
    | 4, _ => rfl
    | 5, _ => rfl
    | 6, _ => rfl
    | 7, _ => rfl
  have h := hC l (by omega)
  rw [e, kcB]
  unfold allB
  rw [if_pos (by omega), if_pos (by omega), if_neg (by omega), if_neg (by omega), x8_zero _ h.1 h.2]
  rw [show l + 16 - 16 = l by omega, show l + 24 - 16 = l + 8 by omega]
end Go.Proofs.Ybulkki
