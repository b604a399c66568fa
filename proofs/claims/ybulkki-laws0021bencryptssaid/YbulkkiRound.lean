import Derived.Test.YbulkkiLoad
namespace Go.Proofs.Ybulkki
open Go.RowKit

theorem pb_bounds (hi lo : Int) (h0 : 0 ≤ hi) (h1 : hi < 18446744073709551616) (l0 : 0 ≤ lo) (l1 : lo < 18446744073709551616) (j : Nat) : 0 ≤ pb hi lo j ∧ pb hi lo j ≤ 255 := by
  unfold pb
  split
  · exact byt_bounds hi h0 h1 j
  · exact byt_bounds lo l0 l1 _
theorem word_pb_hi (hi lo : Int) : word (pb hi lo) = hi := (word_congr fun j hj => by unfold pb; rw [if_pos hj]).trans (word_byt hi)
theorem word_pb_lo (hi lo : Int) : word (fun j => pb hi lo (j + 8)) = lo := (word_congr fun j _ => by unfold pb; rw [if_neg (by omega), Nat.add_sub_cancel]).trans (word_byt lo)
theorem zeros16 : (#[.int .u8 0, .int .u8 0, .int .u8 0, .int .u8 0, .int .u8 0, .int .u8 0, .int .u8 0, .int .u8 0, .int .u8 0, .int .u8 0, .int .u8 0, .int .u8 0, .int .u8 0, .int .u8 0, .int .u8 0, .int .u8 0] : Array Value) = (arr 16 fun _ => 0).toArray := rfl
theorem there_new (w : World) (n : Nat) (C : Nat → Int) (t : TypeId) : (w.alloc (.cells (arr n C).toArray t)).there w.heap.size 0 n := fun j hj => by
  rw [Nat.zero_add, World.cell?_alloc_new, List.getElem?_toArray, arr_at n C j hj]
  exact ⟨rfl, by simp⟩
theorem there_below {w w' : World} {b o n : Nat} (h : w.there b o n) (hb : Below w.heap.size w w') : w'.there b o n := fun j hj => by
  obtain ⟨h1, h2⟩ := h j hj
  obtain ⟨x, hx⟩ := Option.isSome_iff_exists.1 h1
  have hl := lt_of_cell hx
  rw [hb.cell hl, hb.frozen hl]
  exact ⟨h1, h2⟩

set_option maxHeartbeats 1600000 in
set_option maxRecDepth 100000 in
/-- 'bytes'. -/
theorem bytes_any (hi lo : Int) (h0 : 0 ≤ hi) (h1 : hi < 18446744073709551616) (l0 : 0 ≤ lo) (l1 : lo < 18446744073709551616) (w : World) :
    Calls Yba.prog 8 #[.agg #[.int .u64 hi, .int .u64 lo]] w fun e w' => e = .returned (.agg (arr 16 (pb hi lo)).toArray) ∧ Below w.heap.size w w' := by
  go_enter Yba.func8, Yba.ntmps8
  go_wp2_with fail
  rw [zeros16]
  have hB : Below w.heap.size w (((w.alloc (.cells #[.int .u64 hi, .int .u64 lo] 25)).alloc (.cells (arr 16 fun _ => 0).toArray 23)).alloc (.cells (arr 16 fun _ => 0).toArray 23)) := (((Below.refl _ _).alloc (Nat.le_refl _) _).alloc (by simp) _).alloc (by simp <;> omega) _
  have hsz : (((w.alloc (.cells #[.int .u64 hi, .int .u64 lo] 25)).alloc (.cells (arr 16 fun _ => 0).toArray 23)).alloc (.cells (arr 16 fun _ => 0).toArray 23)).heap.size = w.heap.size + 1 + 1 + 1 := by simp
  have ht1 : (((w.alloc (.cells #[.int .u64 hi, .int .u64 lo] 25)).alloc (.cells (arr 16 fun _ => 0).toArray 23)).alloc (.cells (arr 16 fun _ => 0).toArray 23)).there (w.heap.size + 1) 0 16 := by
    have := there_new (w.alloc (.cells #[.int .u64 hi, .int .u64 lo] 25)) 16 (fun _ => 0) 23
    simp only [World.size_alloc] at this
    exact World.there_alloc this _
  have ht2 : (((w.alloc (.cells #[.int .u64 hi, .int .u64 lo] 25)).alloc (.cells (arr 16 fun _ => 0).toArray 23)).alloc (.cells (arr 16 fun _ => 0).toArray 23)).there (w.heap.size + 1 + 1) 0 16 := by
    have := there_new ((w.alloc (.cells #[.int .u64 hi, .int .u64 lo] 25)).alloc (.cells (arr 16 fun _ => 0).toArray 23)) 16 (fun _ => 0) 23
    simp only [World.size_alloc] at this
    exact this
  generalize (((w.alloc (.cells #[.int .u64 hi, .int .u64 lo] 25)).alloc (.cells (arr 16 fun _ => 0).toArray 23)).alloc (.cells (arr 16 fun _ => 0).toArray 23)) = w0 at *
  refine (put_any (w.heap.size + 1 + 1) hi lo h0 h1 l0 l1 w0 ht2).mono ?_
  rintro e w1 ⟨rfl, hp⟩
  have hr := arr_range (n := 16) (C := pb hi lo) (w := w1) (b := w.heap.size + 1 + 1) hp.cell
  have ht : w1.there (w.heap.size + 1) 0 16 := fun j hj => by
    have hk := hp.grown.block (w.heap.size + 1) (by omega) (by simp)
    rw [World.cell?_of_block (a := ⟨w.heap.size + 1, 0 + j, none⟩) hk, World.frozen?_of_block (a := ⟨w.heap.size + 1, 0 + j, none⟩) hk]
    exact ht1 j hj
  have hB1 : Below w.heap.size w w1 := ⟨hp.grown.os.trans hB.os, hp.grown.tape.trans hB.tape, hp.grown.output.trans hB.output, Nat.le_trans hB.size hp.grown.size, fun k hk => (hp.grown.block k (by omega) (by simp; omega)).trans (hB.block k hk)⟩
  go_wp2_with (first | (refine wpList_load_mid rfl 23 _ rfl (w.heap.size + 1 + 1) 0 rfl (arr 16 (pb hi lo)) _ hr Yba.underlying23 rfl size23 ?_) | (refine wpList_store_mid rfl 23 _ _ rfl (w.heap.size + 1) 0 (arr 16 (pb hi lo)).toArray rfl rfl ht size23 (all_oneCell_toArray (arr_one _ _)) ?_))
  refine bodyPost_ret (results_cell Yba.results8 _ _ (w.heap.size + 1) 0 (arr 16 (pb hi lo)) _ rfl ?_ Yba.underlying23 rfl size23) rfl ⟨rfl, ?_⟩
  · exact World.rangeAt_setCells_same _ _ _ _ ht
  · exact setCells_below _ _ (by omega) _ _ _ _ hB1

set_option maxHeartbeats 1600000 in
set_option maxRecDepth 100000 in
/-- 'LawS0021ARoundTrip'. -/
theorem round_walk (hi lo : Int) (h0 : 0 ≤ hi) (h1 : hi < 18446744073709551616) (l0 : 0 ≤ lo) (l1 : lo < 18446744073709551616) (w : World) :
    Calls Yba.prog 4 #[.int .u64 hi, .int .u64 lo] w fun e w' => e = .returned (.bool true) ∧ Below w.heap.size w w' := by
  go_enter Yba.func4, Yba.ntmps4
  go_wp2_with fail
  refine (bytes_any hi lo h0 h1 l0 l1 _).mono ?_
  rintro e w1 ⟨rfl, hb1⟩
  have ht := there_new w1 16 (fun _ => 0) 23
  have hB : Below w.heap.size w (w1.alloc (.cells (arr 16 fun _ => 0).toArray 23)) := (((Below.refl w.heap.size w).alloc (Nat.le_refl _) _).trans (hb1.mono (by simp))).alloc (Nat.le_trans (by simp) hb1.size) _
  rw [← zeros16] at ht hB
  have hw : w.heap.size < w1.heap.size := Nat.lt_of_lt_of_le (by simp) hb1.size
  have hr : ((w1.alloc (.cells #[.int .u8 0, .int .u8 0, .int .u8 0, .int .u8 0, .int .u8 0, .int .u8 0, .int .u8 0, .int .u8 0, .int .u8 0, .int .u8 0, .int .u8 0, .int .u8 0, .int .u8 0, .int .u8 0, .int .u8 0, .int .u8 0] 23)).setCells w1.heap.size 0 (arr 16 (pb hi lo)).toArray.toList).rangeAt w1.heap.size 0 (arr 16 (pb hi lo)) := World.rangeAt_setCells_same _ _ _ (arr 16 (pb hi lo)) ht
  have hB1 : Below w.heap.size w ((w1.alloc (.cells #[.int .u8 0, .int .u8 0, .int .u8 0, .int .u8 0, .int .u8 0, .int .u8 0, .int .u8 0, .int .u8 0, .int .u8 0, .int .u8 0, .int .u8 0, .int .u8 0, .int .u8 0, .int .u8 0, .int .u8 0, .int .u8 0] 23)).setCells w1.heap.size 0 (arr 16 (pb hi lo)).toArray.toList) := setCells_below _ _ (Nat.le_of_lt hw) (arr 16 (pb hi lo)) 0 _ _ hB
  go_wp2_with (refine wpList_store_mid rfl 23 _ _ rfl w1.heap.size 0 (arr 16 (pb hi lo)).toArray rfl rfl ht size23 (all_oneCell_toArray (arr_one _ _)) ?_; clear ht)
  generalize ((w1.alloc (.cells #[.int .u8 0, .int .u8 0, .int .u8 0, .int .u8 0, .int .u8 0, .int .u8 0, .int .u8 0, .int .u8 0, .int .u8 0, .int .u8 0, .int .u8 0, .int .u8 0, .int .u8 0, .int .u8 0, .int .u8 0, .int .u8 0] 23)).setCells w1.heap.size 0 (arr 16 (pb hi lo)).toArray.toList) = w2 at *
  refine (load_any w1.heap.size (pb hi lo) (fun j _ => pb_bounds hi lo h0 h1 l0 l1 j) w2 (fun j hj => by simpa using hr j _ (arr_at 16 (pb hi lo) j hj))).mono ?_
  rintro e w3 ⟨rfl, hb3⟩
  rw [word_pb_hi, word_pb_lo]
  go_wp2
  go_ret
  exact ⟨rfl, (hB1.trans (hb3.mono hB1.size)).alloc (Nat.le_trans hB1.size hb3.size) _⟩
end Go.Proofs.Ybulkki
