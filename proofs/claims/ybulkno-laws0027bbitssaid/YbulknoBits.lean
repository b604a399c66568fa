import Derived.Test.YbulknoPut
import Derived.BigRegion
namespace Go.Proofs.Ybulkno
open Go.RowKit

/-- A writer at block X, that has written the bits S: its buffer lies at block g. -/
structure WS (N X : Nat) (u : World) (S : List Bool) (g c : Nat) (wr : World) : Prop where
  below : Below N u wr
  buf : wr.cell? ⟨X, 0, none⟩ = some (.slice (some ⟨g, 0, none⟩) (nb S) c)
  used : wr.cell? ⟨X, 1, none⟩ = some (.int .u64 (S.length % 8 : Nat))
  z0 : wr.frozen? ⟨X, 0, none⟩ = false
  z1 : wr.frozen? ⟨X, 1, none⟩ = false
  own : wr.ownsRow N 5 1 (.slice (some ⟨g, 0, none⟩) (nb S) c) (nb S) (arr (nb S) (byteOf S))
  ne : g ≠ X
  hN : N ≤ X

/-- .. inside a round of 'bits': the last byte has room. -/
structure MS (N X : Nat) (u : World) (T : List Bool) (g c : Nat) (wr : World) : Prop where
  below : Below N u wr
  buf : wr.cell? ⟨X, 0, none⟩ = some (.slice (some ⟨g, 0, none⟩) (T.length / 8 + 1) c)
  used : wr.cell? ⟨X, 1, none⟩ = some (.int .u64 (T.length % 8 : Nat))
  z0 : wr.frozen? ⟨X, 0, none⟩ = false
  z1 : wr.frozen? ⟨X, 1, none⟩ = false
  own : wr.ownsRow N 5 1 (.slice (some ⟨g, 0, none⟩) (T.length / 8 + 1) c) (T.length / 8 + 1) (arr (T.length / 8 + 1) (byteOf T))
  ne : g ≠ X
  hN : N ≤ X
theorem WS.mid {N X : Nat} {u : World} {S : List Bool} {g c : Nat} {wr : World} (h : WS N X u S g c wr) (hr : S.length % 8 ≠ 0) : MS N X u S g c wr := by
  have e : nb S = S.length / 8 + 1 := by unfold nb; omega
  exact ⟨h.below, e ▸ h.buf, h.used, h.z0, h.z1, e ▸ h.own, h.ne, h.hN⟩

set_option maxRecDepth 100000 in
/-- 'align'. -/
theorem align_any (N X : Nat) (u : World) (S : List Bool) (g c : Nat) (w : World) (h : WS N X u S g c w) :
    Calls Yba.prog 12 #[.pointer (some ⟨X, 0, none⟩)] w fun e w' => e = .returned (.tuple #[]) ∧ WS N X u (padL S) g c w' := by
  have a1 := h.used
  have a2 := h.z1
  have HW : Hid (WS N X u (padL S) g c (w.setCell ⟨X, 1, none⟩ (.int .u64 0))) := by
    have e : nb (padL S) = nb S := nb_pad S
    refine ⟨h.below.setCell h.hN _, ?_, ?_, ?_, ?_, ?_, h.ne, h.hN⟩
    · rw [e, World.cell?_setCell_other _ _ _ _ (by simp)]; exact h.buf
    · rw [World.cell?_setCell_same _ _ _ a1, padL_length, Nat.mul_mod_right]; rfl
    · rw [World.frozen?_setCell]; exact h.z0
    · rw [World.frozen?_setCell]; exact h.z1
    · rw [e, arr_congr (D := byteOf S) fun k _ => byteOf_pad S k]
      exact ownsRow_setCell_other h.own (by simp [Value.ownBlock]; exact h.ne) _
  clear h
  go_enter Yba.func12, Yba.ntmps12
  go_wp2
  go_end0
  exact ⟨rfl, HW.out⟩

theorem MS.step {N X : Nat} {u : World} {T : List Bool} {g c : Nat} {wr : World} (h : MS N X u T g c wr) (x : Int) (t : Nat) (ht1 : 1 ≤ t) (ht : T.length % 8 + t ≤ 8) :
    WS N X u (T ++ bitsOf x t) g c (((wr.setCell ⟨g, T.length / 8, none⟩ (.int .u8 (byteOf T (T.length / 8) + x % 2 ^ t * 2 ^ (8 - T.length % 8 - t)))).drew).setCell ⟨X, 1, none⟩ (.int .u64 ((T.length % 8 + t) % 8 : Nat))) := by
  have hl : (T ++ bitsOf x t).length = T.length + t := by rw [List.length_append, bitsOf_length]
  have e : nb (T ++ bitsOf x t) = T.length / 8 + 1 := by unfold nb; rw [hl]; omega
  have hgX := h.ne
  have hg : N ≤ g := (h.own.lt g rfl).1
  have hb := byteOf_bits x (T.length / 8) t (T.length % 8) T (by omega) ht
  have hne : ∀ k, (⟨X, k, none⟩ : Addr) ≠ ⟨g, T.length / 8, none⟩ := fun k e => hgX (by simpa using (congrArg Addr.block e).symm)
  refine ⟨((h.below.setCell hg _).drew).setCell h.hN _, ?_, ?_, ?_, ?_, ?_, hgX, h.hN⟩
  · rw [e, World.cell?_setCell_other _ _ _ _ (by simp), World.cell?_drew, World.cell?_setCell_other _ _ _ _ (fun q => hne 0 q.symm)]; exact h.buf
  · rw [World.cell?_setCell_same _ _ _ ((World.cell?_drew _ _).trans ((World.cell?_setCell_other _ _ _ _ (fun q => hne 1 q.symm)).trans h.used)), hl, Nat.mod_add_mod]
  · rw [World.frozen?_setCell, World.frozen?_drew, World.frozen?_setCell]; exact h.z0
  · rw [World.frozen?_setCell, World.frozen?_drew, World.frozen?_setCell]; exact h.z1
  · rw [e]
    have hs := (h.own.stored (T.length / 8) (.int .u8 (byteOf T (T.length / 8) + x % 2 ^ t * 2 ^ (8 - T.length % 8 - t)))).1
    rw [← hb] at hs ⊢
    rw [arr_set _ _ (byteOf (T ++ bitsOf x t)) _ (fun k hk hne => (byteOf_keep x k t T (by omega)).symm)] at hs
    exact ownsRow_setCell_other hs.drew (by simp [Value.ownBlock]; exact hgX) _
theorem bits_rest (S : List Bool) (x : Int) (n m t : Nat) (hm : m ≤ n) (ht : t ≤ m) : S ++ bitsOf (x / 2 ^ (m - t)) (n - (m - t)) = (S ++ bitsOf (x / 2 ^ m) (n - m)) ++ bitsOf (x / 2 ^ (m - t)) t := by
  have h := bitsOf_split (x / 2 ^ (m - t)) t (n - m)
  rw [Int.ediv_ediv_of_nonneg (Int.pow_nonneg (by decide)), ← Int.pow_add, show m - t + t = m by omega, show n - m + t = n - (m - t) by omega] at h
  rw [List.append_assoc, h]
theorem bits_rest' {S : List Bool} {x : Int} {n m t : Nat} {T : List Bool} (hT : S ++ bitsOf (x / 2 ^ m) (n - m) = T) (hm : m ≤ n) (ht : t ≤ m) : S ++ bitsOf (x / 2 ^ (m - t)) (n - (m - t)) = T ++ bitsOf (x / 2 ^ (m - t)) t := by
  rw [← hT]; exact bits_rest S x n m t hm ht
theorem chunk_eq (y : Int) (t : Nat) (ht : t ≤ 8) : bits BinOp.and IntKind.u8 (y % 256) ((2 ^ t - 1) % 256) = y % 2 ^ t := by
  obtain ⟨Y, hY⟩ : ∃ Y : Nat, y % 256 = (Y : Int) := ⟨(y % 256).toNat, by omega⟩
  have hYl : Y < 256 := by omega
  have hd : y % 2 ^ t = (Y : Int) % 2 ^ t := by
    rw [← hY]
    refine (Int.emod_emod_of_dvd y ?_).symm
    exact ⟨2 ^ (8 - t), by rw [← Int.pow_add, show t + (8 - t) = 8 by omega]; rfl⟩
  have hp : (2 : Int) ^ t ≤ 256 := by
    match t, ht with
    | 0, _ => decide
    | 1, _ => decide
    | 2, _ => decide
    | 3, _ => decide
    | 4, _ => decide
    | 5, _ => decide
    | 6, _ => decide
    | 7, _ => decide
    | 8, _ => decide
  have hp0 : (0 : Int) < 2 ^ t := Int.pow_pos (by decide)
  have e2 : ((2 : Int) ^ t - 1) % 256 = ((2 ^ t - 1 : Nat) : Int) := by
    have : ((2 ^ t : Nat) : Int) = 2 ^ t := by simp
    omega
  have hs : (2 ^ t - 1 : Nat) < 256 := by
    have : ((2 ^ t : Nat) : Int) = 2 ^ t := by simp
    omega
  rw [hY, hd, e2, u8_and_nat Y _ hYl hs, Nat.and_two_pow_sub_one_eq_mod]
  simp
theorem or_chunk (y ch : Int) (r t : Nat) (hr : r + t ≤ 8) (h0 : 0 ≤ y ∧ y ≤ 255) (hy : y % 2 ^ (8 - r) = 0) (hc : 0 ≤ ch ∧ ch < 2 ^ t) : ch * 2 ^ (8 - r - t) % 256 = ch * 2 ^ (8 - r - t) ∧ bits .or .u8 y (ch * 2 ^ (8 - r - t)) = y + ch * 2 ^ (8 - r - t) := by
  have hp0 : (0 : Int) < 2 ^ (8 - r - t) := Int.pow_pos (by decide)
  have hz0 : 0 ≤ ch * 2 ^ (8 - r - t) := Int.mul_nonneg hc.1 (Int.le_of_lt hp0)
  have hz1 : ch * 2 ^ (8 - r - t) < 2 ^ (8 - r) := by
    have h := Int.mul_lt_mul_of_pos_right hc.2 hp0
    rw [← Int.pow_add, show t + (8 - r - t) = 8 - r by omega] at h
    exact h
  have hp : (2 : Int) ^ (8 - r) ≤ 256 := by
    have h8 : 8 - r ≤ 8 := by omega
    generalize 8 - r = k at h8
    match k, h8 with
    | 0, _ => decide
    | 1, _ => decide
    | 2, _ => decide
    | 3, _ => decide
    | 4, _ => decide
    | 5, _ => decide
    | 6, _ => decide
    | 7, _ => decide
    | 8, _ => decide
  exact ⟨Int.emod_eq_of_lt hz0 (by omega), or_join y _ (8 - r) (by omega) h0 hy ⟨hz0, hz1⟩⟩

set_option maxRecDepth 100000 in
set_option maxHeartbeats 3200000 in
/-- 'bits'. -/
theorem bits_any (N X : Nat) (u : World) (S : List Bool) (g c : Nat) (x : Int) (n : Nat) (hn : n ≤ 64) (hl : S.length ≤ 4000) (w : World) (h : WS N X u S g c w) :
    Calls Yba.prog 10 #[.pointer (some ⟨X, 0, none⟩), .int .u64 x, .int .u64 n] w fun e w' => e = .returned (.tuple #[]) ∧ ∃ g' c', WS N X u (S ++ bitsOf x n) g' c' w' := by
  obtain ⟨i0, hi, hz0, hz1, hz2⟩ := Yba.zero5
  have HL : Hid (WS N X u (S ++ bitsOf (x / 2 ^ n) (n - n)) g c w) := by
    rw [Nat.sub_self, bitsOf, List.append_nil]; exact h
  clear h
  go_enter Yba.func10, Yba.ntmps10
  go_wp2_with fail
  go_loopw [2] (fun t wr => ∃ m g c : Nat, m ≤ n ∧ t = .int .u64 m ∧ WS N X u (S ++ bitsOf (x / 2 ^ m) (n - m)) g c wr) (fun t _ => (intOf t).toNat)
  case atStart => exact ⟨n, g, c, Nat.le_refl _, rfl, HL.out⟩
  case round =>
    clear HL
    obtain ⟨m, g, c, hmn, rfl, hW⟩ := hrel
    by_cases hm : m = 0
    · subst hm
      have HW : Hid (∃ g' c', WS N X u (S ++ bitsOf x n) g' c' wr) := by
        show ∃ g' c', WS N X u (S ++ bitsOf x n) g' c' wr
        exact ⟨g, c, by simpa using hW⟩
      clear hW
      go_wp2_with fail
      go_end0
      exact ⟨rfl, HW.out⟩
    · have hlen : (S ++ bitsOf (x / 2 ^ m) (n - m)).length ≤ 4064 := by rw [List.length_append, bitsOf_length]; omega
      generalize hT : S ++ bitsOf (x / 2 ^ m) (n - m) = T at *
      have HT : Hid _ := hT
      clear hT
      by_cases hr : T.length % 8 = 0
      · have hq0 : nb T = T.length / 8 := by unfold nb; omega
        have a1 := hW.buf
        have a2 := hW.used
        have a3 := hW.z0
        have a4 := hW.z1
        rw [hr] at a2
        rw [hq0] at a1
        have hown0 := hW.own
        rw [hq0] at hown0
        have hXlt : X < wr.heap.size := lt_of_cell a1
        have r4 : (0 : Int) < (m : Int) := by omega
        go_upto_region 3 with (at_builtin; refine wpList_append_lies _ rfl (.tmp 20) (.tmp 21) 25 rfl N 5 i0 (.int .u8 0) 1 1 Yba.underlying25 hi hz0 hz1 hz2 rfl (by omega) _ (T.length / 8) _ rfl (hown0.alloc _) ⟨wr.heap.size, 0, none⟩ 1 1 [.int .u8 0] rfl rfl ?c1 ?c2 (by omega) ?c3 ?c4 ?c5 _ rfl ?_)
        case c1 => exact World.news_of_block (fr := (0, 0)) (heap_alloc_new wr _)
        case c2 => intro u hu; simp at hu; subst hu; rfl
        case c3 => unfold maxLen; omega
        case c4 => omega
        case c5 => simp; have := hW.hN; omega
        intro g2 c2 w2 hown2 hgrow2 hg2 hlt2
        have hgX0 := hW.ne
        have bX : w2.heap[X]? = (wr.alloc (Obj.cells #[Value.int IntKind.u8 0] 5)).heap[X]? := hgrow2.block X (by simp; omega) (by simp [Value.ownBlock]; omega)
        have s1 : w2.cell? ⟨X, 0, none⟩ = some (.slice (some ⟨g, 0, none⟩) (T.length / 8) c) := (World.cell?_of_block (a := ⟨X, 0, none⟩) bX).trans ((World.cell?_alloc_past _ _ _ hXlt).trans a1)
        have s2 : w2.cell? ⟨X, 1, none⟩ = some (.int .u64 (0 : Nat)) := (World.cell?_of_block (a := ⟨X, 1, none⟩) bX).trans ((World.cell?_alloc_past _ _ _ hXlt).trans a2)
        have s3 : w2.frozen? ⟨X, 0, none⟩ = false := (World.frozen?_of_block (a := ⟨X, 0, none⟩) bX).trans ((World.frozen?_alloc_past _ _ _ hXlt).trans a3)
        have s4 : w2.frozen? ⟨X, 1, none⟩ = false := (World.frozen?_of_block (a := ⟨X, 1, none⟩) bX).trans ((World.frozen?_alloc_past _ _ _ hXlt).trans a4)
        have hg2X : g2 ≠ X := by
          rcases hg2 with e | e
          · simp [Value.ownBlock] at e; omega
          · omega
        have hM : MS N X u T g2 c2 (w2.setCell ⟨X, 0, none⟩ (.slice (some ⟨g2, 0, none⟩) (T.length / 8 + 1) c2)) := by
          have hl0 := hW.below.size
          refine ⟨(((hW.below.alloc (by have := hW.hN; omega) _).grown hgrow2 (by simp; have := hW.hN; omega) (fun q h => (hown0.lt q h).1))).setCell hW.hN _, World.cell?_setCell_same _ _ _ s1, ?_, ?_, ?_, ?_, hg2X, hW.hN⟩
          · rw [World.cell?_setCell_other _ _ _ _ (by simp), s2, hr]
          · rw [World.frozen?_setCell]; exact s3
          · rw [World.frozen?_setCell]; exact s4
          · have e : arr (T.length / 8) (byteOf T) ++ [.int .u8 0] = arr (T.length / 8 + 1) (byteOf T) := by
              unfold arr
              rw [List.range_succ, List.map_append, List.map_singleton, byteOf_past T (T.length / 8) (by omega)]
            rw [e] at hown2
            exact ownsRow_setCell_other hown2 (by simp [Value.ownBlock]; exact hg2X) _
        clear hW hown0 hgrow2 hg2 hlt2 bX hown2 a1 a2 a3 a4
        go_upto_region 3 with fail
        clear s1 s2 s3 s4 hr
        generalize w2.setCell ⟨X, 0, none⟩ (.slice (some ⟨g2, 0, none⟩) (T.length / 8 + 1) c2) = w3 at *
        have a1 := hM.buf
        have a2 := hM.used
        have a3 := hM.z0
        have a4 := hM.z1
        have a5 := (hM.own.cellAt (T.length / 8) (by omega)).trans (arr_at _ _ (T.length / 8) (by omega))
        have a6 := hM.own.frozenAt (T.length / 8)
        obtain ⟨t, ht⟩ : ∃ t : Nat, t = min (8 - T.length % 8) m := ⟨_, rfl⟩
        have ht0 : 1 ≤ t := by omega
        have ht1 : (t : Int) ≤ 8 - (T.length % 8 : Nat) := by omega
        have ht2 : (t : Int) ≤ m := by omega
        have hmin : min ((8 : Int) - (T.length % 8 : Nat)) m = t := by omega
        have HM : Hid _ := hM.step (x / 2 ^ (m - t)) t (by omega) (by omega)
        have hgX : g2 ≠ X := hM.ne
        rw [← bits_rest' HT.out hmn (by omega)] at HM
        clear hM ht
        generalize hq : T.length / 8 = q at *
        generalize hr8 : T.length % 8 = r at *
        have r1 : (0 : Int) ≤ (r : Int) := by omega
        have r2 : (r : Int) < 8 := by omega
        have r4 : (0 : Int) < (m : Int) := by omega
        have r5 : (m : Int) ≤ 64 := by omega
        go_upto_region 6 with fail
        rw [chunk_eq (x / 2 ^ (m - t)) t (by omega)]
        have hch0 : 0 ≤ x / 2 ^ (m - t) % 2 ^ t := Int.emod_nonneg _ (Int.ne_of_gt (Int.pow_pos (by decide)))
        have hch1 : x / 2 ^ (m - t) % 2 ^ t < 2 ^ t := Int.emod_lt_of_pos _ (Int.pow_pos (by decide))
        have hby := byteOf_bounds T q
        have hlow := byteOf_low T q r (by omega) (by omega)
        obtain ⟨o1, o2⟩ := or_chunk (byteOf T q) (x / 2 ^ (m - t) % 2 ^ t) r t (by omega) hby hlow ⟨hch0, hch1⟩
        generalize x / 2 ^ (m - t) % 2 ^ t = ch at *
        generalize byteOf T q = y at *
        have n1 : ∀ (W : World) (v : Value) (j k : Nat), (W.setCell ⟨g2, j, none⟩ v).cell? ⟨X, k, none⟩ = W.cell? ⟨X, k, none⟩ := fun W v j k => World.cell?_setCell_other _ _ _ _ (fun e => hgX (by simpa using congrArg Addr.block e))
        have q0 : (0 : Int) ≤ (q : Int) := by omega
        have q1 : (q : Int) ≤ 600 := by omega
        have q2 : IntKind.i64.wrap ((q : Int) + 1 - 1) = (q : Int) := by rw [IntWalk.i64_in _ (by omega)]; omega
        have q3 : IntKind.i64.wrap (((q + 1 : Nat) : Int) - 1) = (q : Int) := by rw [IntWalk.i64_in _ (by omega)]; omega
        have q4 : (q : Int) + 1 - 1 = (q : Int) := by omega
        have q5 : (q : Int) < (q : Int) + 1 := by omega
        go_region
        have n2 : ∀ (W : World) (v : Value) (j k : Nat), (W.setCell ⟨g2, j, none⟩ v).frozen? ⟨X, k, none⟩ = W.frozen? ⟨X, k, none⟩ := fun W v j k => World.frozen?_setCell _ _ _ _
        go_wp2_with fail
        have e8 : ((r : Int) + (t : Int)) % 8 = ((r + t) % 8 : Nat) := by omega
        rw [e8]
        exact ⟨⟨m - t, g2, c2, by omega, by rw [Int.ofNat_sub (by omega)], HM.out⟩, by simp [intOf]; omega⟩
      · have hM := hW.mid hr
        clear hW
        have a1 := hM.buf
        have a2 := hM.used
        have a3 := hM.z0
        have a4 := hM.z1
        have a5 := (hM.own.cellAt (T.length / 8) (by omega)).trans (arr_at _ _ (T.length / 8) (by omega))
        have a6 := hM.own.frozenAt (T.length / 8)
        obtain ⟨t, ht⟩ : ∃ t : Nat, t = min (8 - T.length % 8) m := ⟨_, rfl⟩
        have ht0 : 1 ≤ t := by omega
        have ht1 : (t : Int) ≤ 8 - (T.length % 8 : Nat) := by omega
        have ht2 : (t : Int) ≤ m := by omega
        have hmin : min ((8 : Int) - (T.length % 8 : Nat)) m = t := by omega
        have HM : Hid _ := hM.step (x / 2 ^ (m - t)) t (by omega) (by omega)
        have hgX : g ≠ X := hM.ne
        rw [← bits_rest' HT.out hmn (by omega)] at HM
        clear hM ht
        generalize hq : T.length / 8 = q at *
        generalize hr8 : T.length % 8 = r at *
        have r1 : (0 : Int) ≤ (r : Int) := by omega
        have r2 : (r : Int) < 8 := by omega
        have r3 : ¬ (r : Int) = 0 := by omega
        have r4 : (0 : Int) < (m : Int) := by omega
        have r5 : (m : Int) ≤ 64 := by omega
        go_upto_region 6 with fail
        rw [chunk_eq (x / 2 ^ (m - t)) t (by omega)]
        have hch0 : 0 ≤ x / 2 ^ (m - t) % 2 ^ t := Int.emod_nonneg _ (Int.ne_of_gt (Int.pow_pos (by decide)))
        have hch1 : x / 2 ^ (m - t) % 2 ^ t < 2 ^ t := Int.emod_lt_of_pos _ (Int.pow_pos (by decide))
        have hby := byteOf_bounds T q
        have hlow := byteOf_low T q r (by omega) (by omega)
        obtain ⟨o1, o2⟩ := or_chunk (byteOf T q) (x / 2 ^ (m - t) % 2 ^ t) r t (by omega) hby hlow ⟨hch0, hch1⟩
        generalize x / 2 ^ (m - t) % 2 ^ t = ch at *
        generalize byteOf T q = y at *
        have n1 : ∀ (W : World) (v : Value) (j k : Nat), (W.setCell ⟨g, j, none⟩ v).cell? ⟨X, k, none⟩ = W.cell? ⟨X, k, none⟩ := fun W v j k => World.cell?_setCell_other _ _ _ _ (fun e => hgX (by simpa using congrArg Addr.block e))
        have q0 : (0 : Int) ≤ (q : Int) := by omega
        have q1 : (q : Int) ≤ 600 := by omega
        have q2 : IntKind.i64.wrap ((q : Int) + 1 - 1) = (q : Int) := by rw [IntWalk.i64_in _ (by omega)]; omega
        have q3 : IntKind.i64.wrap (((q + 1 : Nat) : Int) - 1) = (q : Int) := by rw [IntWalk.i64_in _ (by omega)]; omega
        have q4 : (q : Int) + 1 - 1 = (q : Int) := by omega
        have q5 : (q : Int) < (q : Int) + 1 := by omega
        go_region
        have n2 : ∀ (W : World) (v : Value) (j k : Nat), (W.setCell ⟨g, j, none⟩ v).frozen? ⟨X, k, none⟩ = W.frozen? ⟨X, k, none⟩ := fun W v j k => World.frozen?_setCell _ _ _ _
        go_wp2_with fail
        have e8 : ((r : Int) + (t : Int)) % 8 = ((r + t) % 8 : Nat) := by omega
        rw [e8]
        exact ⟨⟨m - t, g, c, by omega, by rw [Int.ofNat_sub (by omega)], HM.out⟩, by simp [intOf]; omega⟩
end Go.Proofs.Ybulkno
