import Derived.Test.YbulkkiModel
namespace Go.Proofs.Ybulkki
open Go.RowKit

/-- '==' on an array of bytes and itself. -/
theorem equalIn_arr (d n : Nat) (t : TypeId) (ht : Yba.prog.underlying t = some (.array n 5)) (C : Nat → Int) (w : World) :
    (Op.equalIn (d + 2) t (.agg (arr n C).toArray) (.agg (arr n C).toArray)).run Yba.prog w = .ok true w := by
  have hsz : ∀ w, (sizeOf 5).run Yba.prog w = .ok 1 w := Yba.sizeOf5
  rw [Op.equalIn]
  simp only [Sem.run_bind, run_underlying ht, Result.andThen_ok, hsz, Std.Legacy.Range.forIn_eq_forIn_range', Std.Legacy.Range.size, Nat.sub_zero, Nat.add_sub_cancel, Nat.div_one]
  have hl : ∀ i ∈ List.range' 0 n 1, i < n := fun i hi => by simpa using (List.mem_range'_1.1 hi).2
  generalize List.range' 0 n 1 = l at hl ⊢
  induction l with
  | nil => simp
  | cons i l ih =>
    have hi : i < n := hl i (by simp)
    have px : (part 5 (arr n C).toArray (i * 1)).run Yba.prog w = .ok (.int .u8 (C i)) w := by
      simp [part, isAgg, run_underlying Yba.underlying5, arr_at n C i hi]
    have pe : (Op.equalIn (d + 1) 5 (.int .u8 (C i)) (.int .u8 (C i))).run Yba.prog w = .ok true w := by
      rw [run_equalIn_int w d 5 .u8 .u8 _ _ Yba.underlying5]; simp
    simp only [List.forIn_cons, Sem.run_bind, px, pe, Result.andThen_ok]
    simp only [Bool.not_true, Bool.false_eq_true, if_false, Sem.run_pure, Result.andThen_ok]
    exact ih fun j hj => hl j (by simp [hj])
theorem eql41 (C : Nat → Int) (w : World) : (binOp .eql 41 (.agg (arr 8 C).toArray) (.agg (arr 8 C).toArray)).run Yba.prog w = .ok (.bool true) w := by
  rw [run_eql_struct, equalIn_arr 9998 8 41 Yba.underlying41 C w]
  rfl

theorem range_below {w w' : World} {b o : Nat} {cs : List Value} (h : w.rangeAt b o cs) (hb : Below w.heap.size w w') : w'.rangeAt b o cs := fun j v hv => (hb.cell (lt_of_cell (h j v hv))).trans (h j v hv)
theorem ranges_below {w w' : World} {b o b2 o2 : Nat} {cs ds : List Value} (h : w.rangeAt b o cs ∧ w.rangeAt b2 o2 ds) (hb : Below w.heap.size w w') : w'.rangeAt b o cs ∧ w'.rangeAt b2 o2 ds := ⟨range_below h.1 hb, range_below h.2 hb⟩

set_option maxRecDepth 100000 in
set_option maxHeartbeats 1600000 in
theorem exact_walk (C I : Nat → Int) (hC : ∀ j, j < 16 → 0 ≤ C j ∧ C j ≤ 255) (w : World) :
    Calls Yba.prog 6 #[.agg (arr 16 C).toArray, .agg (arr 16 I).toArray] w fun e w' => e = .returned (.bool true) ∧ Below w.heap.size w w' := by
  have hm : arr 8 (lane (allB C I) 32) = arr 8 (kcB C I) := arr_congr fun l hl => lanes C I hC l hl
  have r1 : ((w.alloc (.cells (arr 16 C).toArray 23)).alloc (.cells (arr 16 I).toArray 23)).rangeAt w.heap.size 0 (arr 16 C) := arr_range fun j hj => by
    rw [World.cell?_alloc_past _ _ _ (by simp), World.cell?_alloc_new, List.getElem?_toArray, arr_at _ _ _ hj]
  have r2 : ((w.alloc (.cells (arr 16 C).toArray 23)).alloc (.cells (arr 16 I).toArray 23)).rangeAt (w.heap.size + 1) 0 (arr 16 I) := arr_range fun j hj => by
    rw [World.cell?_alloc_at _ _ _ _ (by simp), List.getElem?_toArray, arr_at _ _ _ hj]
  have hB0 : Below w.heap.size w ((w.alloc (.cells (arr 16 C).toArray 23)).alloc (.cells (arr 16 I).toArray 23)) := ((Below.refl _ _).alloc (Nat.le_refl _) _).alloc (by simp) _
  have he := eql41 (kcB C I)
  have hu := Yba.underlying23
  have hi1 : (Yba.prog.info? 23).map (·.size) = some (arr 16 C).length := by rw [arr_length]; exact size23
  have hi2 : (Yba.prog.info? 23).map (·.size) = some (arr 16 I).length := by rw [arr_length]; exact size23
  go_enter Yba.func6, Yba.ntmps6
  go_wp2_with fail
  generalize (w.alloc (.cells (arr 16 C).toArray 23)).alloc (.cells (arr 16 I).toArray 23) = w0 at *
  refine wp_region_held_drew (S := fun w' => w'.rangeAt w.heap.size 0 (arr 16 C) ∧ w'.rangeAt (w.heap.size + 1) 0 (arr 16 I)) (by kernel_rfl) ⟨(World.rangeAt_drew _ _ _ _).2 r1, (World.rangeAt_drew _ _ _ _).2 r2⟩ (fun h0 => ?_)
  refine wpAnyH_take (i := 0) (oi := _) (v := .agg (arr 16 C).toArray) rfl (by kernel_rfl) (by kernel_rfl) (by kernel_rfl) (fun _ _ _ h => h) (yieldsIf_load_mid (by rfl) 23 _ rfl w.heap.size 0 rfl (arr 16 C) _ (fun _ h => h.1) hu rfl hi1) h0 ?_
  refine wpAnyH_take (i := 1) (oi := _) (v := .agg (arr 16 I).toArray) rfl (by kernel_rfl) (by kernel_rfl) (by kernel_rfl) (fun _ _ _ h => h) (yieldsIf_load_mid (by rfl) 23 _ rfl (w.heap.size + 1) 0 rfl (arr 16 I) _ (fun _ h => h.2) hu rfl hi2) h0 ?_
  refine wpAnyH_take (i := 3) (oi := _) (v := .agg (arr 16 C).toArray) rfl (by kernel_rfl) (by kernel_rfl) (by kernel_rfl) (fun _ _ _ h => h) (yieldsIf_load_mid (by rfl) 23 _ rfl w.heap.size 0 rfl (arr 16 C) _ (fun _ h => h.1) hu rfl hi1) h0 ?_
  refine wpAnyH_take (i := 4) (oi := _) (v := .agg (arr 16 I).toArray) rfl (by kernel_rfl) (by kernel_rfl) (by kernel_rfl) (fun _ _ _ h => h) (yieldsIf_load_mid (by rfl) 23 _ rfl (w.heap.size + 1) 0 rfl (arr 16 I) _ (fun _ h => h.2) hu rfl hi2) h0 ?_
  refine wpAnyH_ready (rs := [2]) (by kernel_rfl) (by simp) ?_
  refine AllReadyH.cons (o := _) rfl (fun K hK => ?_) AllReadyH.nil
  go_simp
  refine (kc_any C I _).mono ?_
  rintro e w1 ⟨rfl, hb1⟩
  refine hK.out _ _ (ranges_below h0 hb1) (fun h1 => ?_)
  clear hK K
  refine wpAnyH_ready (rs := [5]) (by kernel_rfl) (by simp) ?_
  refine AllReadyH.cons (o := _) rfl (fun K hK => ?_) AllReadyH.nil
  go_simp
  refine (model_any C I _).mono ?_
  rw [hm]
  rintro e w2 ⟨rfl, hb2⟩
  refine hK.out _ _ (ranges_below h1 hb2) (fun h2 => ?_)
  clear hK K
  refine wpAnyH_ready (rs := [6]) (by kernel_rfl) (by simp) ?_
  refine AllReadyH.cons (o := _) rfl (fun K hK => ?_) AllReadyH.nil
  go_simp
  refine hK.out _ _ h2 (fun h3 => ?_)
  clear hK K
  refine wpAnyH_ready (rs := [7]) (by kernel_rfl) (by simp) ?_
  refine AllReadyH.cons (o := _) rfl (fun K hK => ?_) AllReadyH.nil
  go_simp
  refine hK.out _ _ h3 (fun h4 => ?_)
  clear hK K
  refine wpAnyH_done (by kernel_rfl) ?_ _
  go_wp2
  go_ret
  exact ⟨rfl, ((hB0.drew).trans (hb1.mono hB0.size)).trans (hb2.mono ((hB0.drew).trans (hb1.mono hB0.size)).size)⟩
end Go.Proofs.Ybulkki
