import Derived.Test.YbulkkiArr
namespace Go.Proofs.Ybulkki
open Go.RowKit

/-- The xor of two bytes, as the model reckons it. -/
def x8 (a b : Int) : Int := bits BinOp.xor IntKind.u8 a b
/-- kc's byte j. -/
def kcB (C I : Nat → Int) (j : Nat) : Int := x8 (x8 (x8 (C j) (C (j + 8))) (I j)) (I (j + 8))

/-- What lies in memory when i bytes of kc have been laid (S: the first block of the call's own). -/
structure KS (w : World) (C I : Nat → Int) (i : Nat) (wr : World) : Prop where
  below : Below w.heap.size w wr
  c : ∀ j, j < 16 → wr.cell? ⟨w.heap.size, j, none⟩ = some (.int .u8 (C j))
  ii : ∀ j, j < 16 → wr.cell? ⟨w.heap.size + 1, j, none⟩ = some (.int .u8 (I j))
  there : wr.there (w.heap.size + 1 + 1) 0 8
  k : ∀ j, j < 8 → wr.cell? ⟨w.heap.size + 1 + 1 + 1, j, none⟩ = some (.int .u8 (if j < i then kcB C I j else 0))
  z : ∀ j, wr.frozen? ⟨w.heap.size + 1 + 1 + 1, j, none⟩ = false

theorem KS.step {w : World} {C I : Nat → Int} {i : Nat} {wr : World} (h : KS w C I i wr) (hi : i < 8) : KS w C I (i + 1) (wr.setCell ⟨w.heap.size + 1 + 1 + 1, i, none⟩ (.int .u8 (kcB C I i))).drew := by
  have hb := (h.below.setCell (p := ⟨w.heap.size + 1 + 1 + 1, i, none⟩) (by simp <;> omega) (.int .u8 (kcB C I i))).drew
  refine ⟨hb, fun j hj => ?_, fun j hj => ?_, fun j hj => ?_, fun j hj => ?_, fun j => ?_⟩
  · rw [World.cell?_drew, World.cell?_setCell_other _ _ _ _ (blockNe (by omega))]; exact h.c j hj
  · rw [World.cell?_drew, World.cell?_setCell_other _ _ _ _ (blockNe (by omega))]; exact h.ii j hj
  · obtain ⟨h1, h2⟩ := h.there j hj
    rw [World.cell?_drew, World.frozen?_drew, World.frozen?_setCell, World.cell?_setCell_other _ _ _ _ (blockNe (by omega))]; exact ⟨h1, h2⟩
  · rw [World.cell?_drew]
    by_cases e : j = i
    · subst e
      rw [World.cell?_setCell_same _ _ _ (h.k j hj), if_pos (by omega)]
    · rw [World.cell?_setCell_other _ _ _ _ (offNe (Ne.symm e)), h.k j hj]
      by_cases e2 : j < i
      · rw [if_pos e2, if_pos (by omega)]
      · rw [if_neg e2, if_neg (by omega)]
  · rw [World.frozen?_drew, World.frozen?_setCell]; exact h.z j

theorem zeros8 : (#[.int .u8 0, .int .u8 0, .int .u8 0, .int .u8 0, .int .u8 0, .int .u8 0, .int .u8 0, .int .u8 0] : Array Value) = (arr 8 fun _ => 0).toArray := rfl

set_option maxRecDepth 100000 in
set_option maxHeartbeats 1600000 in
/-- 'kcFrom'. -/
theorem kc_any (C I : Nat → Int) (w : World) :
    Calls Yba.prog 12 #[.agg (arr 16 C).toArray, .agg (arr 16 I).toArray] w fun e w' => e = .returned (.agg (arr 8 (kcB C I)).toArray) ∧ Below w.heap.size w w' := by
  go_enter Yba.func12, Yba.ntmps12
  go_wp2_with fail
  go_loopw [7] (fun t wr => ∃ i : Nat, i ≤ 8 ∧ t = .int .i64 i ∧ KS w C I i wr) (fun t _ => 8 - (intOf t).toNat)
  case atStart =>
    refine ⟨0, Nat.zero_le _, rfl, ((((Below.refl _ _).alloc (Nat.le_refl _) _).alloc (by simp) _).alloc (by simp <;> omega) _).alloc (by simp <;> omega) _, fun j hj => ?_, fun j hj => ?_, fun j hj => ?_, fun j hj => ?_, fun j => ?_⟩
    · rw [World.cell?_alloc_past _ _ _ (by simp <;> omega), World.cell?_alloc_past _ _ _ (by simp <;> omega), World.cell?_alloc_past _ _ _ (by simp), World.cell?_alloc_new, List.getElem?_toArray, arr_at _ _ _ hj]
    · rw [World.cell?_alloc_past _ _ _ (by simp <;> omega), World.cell?_alloc_past _ _ _ (by simp), World.cell?_alloc_at _ _ _ _ (by simp), List.getElem?_toArray, arr_at _ _ _ hj]
    · rw [World.cell?_alloc_past _ _ _ (by simp), World.frozen?_alloc_past _ _ _ (by simp), World.cell?_alloc_at _ _ _ _ (by simp), World.frozen?_alloc_at _ _ _ _ (by simp), zeros8, List.getElem?_toArray, Nat.zero_add, arr_at _ _ _ hj]
      exact ⟨rfl, rfl⟩
    · rw [World.cell?_alloc_at _ _ _ _ (by simp), zeros8, List.getElem?_toArray, arr_at _ _ _ hj, if_neg (by omega)]
    · exact World.frozen?_alloc_at _ _ _ _ (by simp)
  case round =>
    obtain ⟨i, hi, rfl, hK⟩ := hrel
    by_cases hlt : i < 8
    · have HS : Hid (KS w C I (i + 1) (wr.setCell ⟨w.heap.size + 1 + 1 + 1, i, none⟩ (.int .u8 (kcB C I i))).drew) := hK.step hlt
      have a1 := hK.c i (by omega)
      have a2 := hK.c (i + 8) (by omega)
      have a3 := hK.ii i (by omega)
      have a4 := hK.ii (i + 8) (by omega)
      have a5 := hK.k i (by omega)
      have a6 := hK.z i
      clear hK
      have b1 : (i : Int) < 8 := by omega
      have b2 : (0 : Int) ≤ (i : Int) := by omega
      have b3 : (i : Int) < 16 := by omega
      have b4 : (0 : Int) ≤ (i : Int) + 8 := by omega
      have b5 : (i : Int) + 8 < 16 := by omega
      have b6 : ((i : Int) + 8).toNat = i + 8 := by omega
      have b7 : IntKind.i64.wrap ((i : Int) + 8) = (i : Int) + 8 := IntWalk.i64_in _ (by omega)
      have n1 : ∀ (W : World) (v : Value) (j k : Nat), (W.setCell ⟨w.heap.size + 1 + 1 + 1, j, none⟩ v).cell? ⟨w.heap.size, k, none⟩ = W.cell? ⟨w.heap.size, k, none⟩ := fun W v j k => World.cell?_setCell_other _ _ _ _ (blockNe (by omega))
      have n2 : ∀ (W : World) (v : Value) (j k : Nat), (W.setCell ⟨w.heap.size + 1 + 1 + 1, j, none⟩ v).cell? ⟨w.heap.size + 1, k, none⟩ = W.cell? ⟨w.heap.size + 1, k, none⟩ := fun W v j k => World.cell?_setCell_other _ _ _ _ (blockNe (by omega))
      go_wp2_with fail
      go_region_held3 (fun w' => w'.cell? ⟨w.heap.size, i, none⟩ = some (.int .u8 (C i)) ∧ w'.cell? ⟨w.heap.size, i + 8, none⟩ = some (.int .u8 (C (i + 8))) ∧ w'.cell? ⟨w.heap.size + 1, i, none⟩ = some (.int .u8 (I i)) ∧ w'.cell? ⟨w.heap.size + 1, i + 8, none⟩ = some (.int .u8 (I (i + 8)))) (go_keep) (fail)
      clear n1 n2 a1 a2 a3 a4 a5 a6
      go_wp2_with fail
      go_roundw
      case rel => exact ⟨i + 1, by omega, by go_num, HS.out⟩
      case measure => simp [intOf]; omega
    · obtain rfl : i = 8 := by omega
      have hr := arr_range (n := 8) (C := kcB C I) (w := wr) (b := w.heap.size + 1 + 1 + 1) (fun j hj => by rw [hK.k j hj, if_pos hj])
      have ht := hK.there
      have hB := hK.below
      clear hK
      go_wp2_with (first | (refine wpList_load_mid rfl 41 _ rfl (w.heap.size + 1 + 1 + 1) 0 rfl (arr 8 (kcB C I)) _ hr Yba.underlying41 rfl size41 ?_) | (refine wpList_store_mid rfl 41 _ _ rfl (w.heap.size + 1 + 1) 0 (arr 8 (kcB C I)).toArray rfl rfl ht size41 (all_oneCell_toArray (arr_one _ _)) ?_))
      refine bodyPost_ret (results_cell Yba.results12 _ _ (w.heap.size + 1 + 1) 0 (arr 8 (kcB C I)) _ rfl ?_ Yba.underlying41 rfl size41) rfl ⟨rfl, ?_⟩
      · exact World.rangeAt_setCells_same _ _ _ _ ht
      · exact setCells_below _ _ (by omega) _ _ _ _ hB
end Go.Proofs.Ybulkki
