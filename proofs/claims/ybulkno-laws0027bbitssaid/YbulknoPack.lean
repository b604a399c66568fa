import Derived.Test.YbulknoLens
import Derived.Deep.DeepCutAuto
import Derived.Deep.MidRow
import Derived.Deep.RegionHeld3
import Derived.Laws.BitsAll
namespace Go.Proofs.Ybulkno
open Go.RowKit

/-- n bytes: their cells. -/
def arr (n : Nat) (C : Nat → Int) : List Value := (List.range n).map fun j => .int .u8 (C j)
theorem arr_length (n : Nat) (C : Nat → Int) : (arr n C).length = n := by simp [arr]
theorem arr_at (n : Nat) (C : Nat → Int) (j : Nat) (h : j < n) : (arr n C)[j]? = some (.int .u8 (C j)) := by simp [arr, h]
theorem arr_congr {n : Nat} {C D : Nat → Int} (h : ∀ j, j < n → C j = D j) : arr n C = arr n D := by
  unfold arr
  exact List.map_congr_left fun j hj => by rw [h j (List.mem_range.1 hj)]
theorem arr_set (n : Nat) (C D : Nat → Int) (i : Nat) (h : ∀ j, j < n → j ≠ i → C j = D j) : (arr n C).set i (.int .u8 (D i)) = arr n D := by
  apply List.ext_getElem?
  intro j
  rw [List.getElem?_set, arr_length]
  by_cases hj : j < n
  · by_cases e : i = j
    · subst e; rw [if_pos rfl, if_pos hj, arr_at _ _ _ hj]
    · rw [if_neg e, arr_at _ _ _ hj, arr_at _ _ _ hj, h j hj (Ne.symm e)]
  · by_cases e : i = j
    · subst e; rw [if_pos rfl, if_neg hj]; simp [arr, hj]
    · rw [if_neg e]; simp [arr, hj]
theorem lt_of_cell {w : World} {a : Addr} {v : Value} (h : w.cell? a = some v) : a.block < w.heap.size := by
  rcases Nat.lt_or_ge a.block w.heap.size with hlt | hge
  · exact hlt
  · simp [World.cell?, Array.getElem?_eq_none hge] at h

theorem Yba.zero5 : ∃ i, Yba.prog.info? 5 = some i ∧ i.zero = some (.int .u8 0) ∧ i.size = 1 ∧ i.bytes = 1 := by
  have h : (Yba.prog.info? 5).map (fun i => (i.zero, i.size, i.bytes)) = some (some (.int .u8 0), 1, 1) := by kernel_rfl
  obtain ⟨i, hi, h2⟩ := Option.map_eq_some_iff.1 h
  simp only [Prod.mk.injEq] at h2
  exact ⟨i, hi, h2.1, h2.2.1, h2.2.2⟩
theorem Yba.zero4 : ∃ i, Yba.prog.info? 4 = some i ∧ i.zero = some (.bool false) ∧ i.size = 1 ∧ i.bytes = 1 := by
  have h : (Yba.prog.info? 4).map (fun i => (i.zero, i.size, i.bytes)) = some (some (.bool false), 1, 1) := by kernel_rfl
  obtain ⟨i, hi, h2⟩ := Option.map_eq_some_iff.1 h
  simp only [Prod.mk.injEq] at h2
  exact ⟨i, hi, h2.1, h2.2.1, h2.2.2⟩

/-- Bits that lie in memory behind a slice's address (nil: none). -/
def Src (w : World) (a : Option Addr) (s : List Bool) : Prop := ∀ j, j < s.length → ∃ b o, a = some ⟨b, o, none⟩ ∧ w.cell? ⟨b, o + j, none⟩ = some (.bool (s.getD j false))

structure PS (w : World) (s : List Bool) (i : Nat) (wr : World) : Prop where
  below : Below w.heap.size w wr
  own : wr.ownsRow w.heap.size 5 1 (.slice (some ⟨w.heap.size, 0, none⟩) (nb s) (nb s)) (nb s) (arr (nb s) (byteOf (s.take i)))

theorem take_one (s : List Bool) (i : Nat) (h : i < s.length) : s.take (i + 1) = s.take i ++ [s.getD i false] := by
  rw [List.take_add_one, List.getD_eq_getElem?_getD, List.getElem?_eq_getElem h]; rfl
theorem byteOf_take (s : List Bool) (i : Nat) (h : i < s.length) (k : Nat) : byteOf (s.take (i + 1)) k = byteOf (s.take i) k + if k = i / 8 then (if s.getD i false then 2 ^ (7 - i % 8) else 0) else 0 := by
  rw [take_one s i h]
  exact byteOf_one _ _ (i / 8) (i % 8) (by omega) (by simp; omega) k

theorem PS.skip {w : World} {s : List Bool} {i : Nat} {wr : World} (h : PS w s i wr) (hi : i < s.length) (hb : s.getD i false = false) : PS w s (i + 1) wr :=
  ⟨h.below, by rw [arr_congr (D := byteOf (s.take i)) fun k _ => by rw [byteOf_take s i hi, hb]; simp]; exact h.own⟩
theorem PS.put {w : World} {s : List Bool} {i : Nat} {wr : World} (h : PS w s i wr) (hi : i < s.length) (hb : s.getD i false = true) : PS w s (i + 1) (wr.setCell ⟨w.heap.size, i / 8, none⟩ (.int .u8 (byteOf (s.take i) (i / 8) + 2 ^ (7 - i % 8)))) := by
  refine ⟨h.below.setCell (Nat.le_refl _) _, ?_⟩
  have e : byteOf (s.take i) (i / 8) + 2 ^ (7 - i % 8) = byteOf (s.take (i + 1)) (i / 8) := by rw [byteOf_take s i hi, if_pos rfl, hb]; rfl
  have := (h.own.stored (i / 8) (.int .u8 (byteOf (s.take i) (i / 8) + 2 ^ (7 - i % 8)))).1
  rw [e] at this ⊢
  rw [arr_set _ _ (byteOf (s.take (i + 1))) _ (fun k _ hk => by rw [byteOf_take s i hi, if_neg hk, Int.add_zero])] at this
  exact this
theorem or_join (y z : Int) (r : Nat) (hr : r ≤ 8) (h0 : 0 ≤ y ∧ y ≤ 255) (hy : y % 2 ^ r = 0) (hz : 0 ≤ z ∧ z < 2 ^ r) : bits .or .u8 y z = y + z := by
  have hp : (2 : Int) ^ r ≤ 256 := by
    match r, hr with
    | 0, _ => decide
    | 1, _ => decide
    | 2, _ => decide
    | 3, _ => decide
    | 4, _ => decide
    | 5, _ => decide
    | 6, _ => decide
    | 7, _ => decide
    | 8, _ => decide
  obtain ⟨Y, rfl⟩ := Int.eq_ofNat_of_zero_le h0.1
  obtain ⟨Z, rfl⟩ := Int.eq_ofNat_of_zero_le hz.1
  have e : ((2 ^ r : Nat) : Int) = 2 ^ r := by simp
  have hyN : Y % 2 ^ r = 0 := by
    have : ((Y % 2 ^ r : Nat) : Int) = (Y : Int) % 2 ^ r := by simp
    omega
  have hzN : Z < 2 ^ r := by
    have h := hz.2
    rw [← e] at h
    omega
  rw [u8_or _ _ h0.1 (by omega) hz.1 (by omega), Int.toNat_natCast, Int.toNat_natCast, nat_join r Y Z hyN hzN]
  omega

theorem or_bit (y : Int) (r : Nat) (hr : r < 8) (h0 : 0 ≤ y ∧ y ≤ 255) (hy : y % 2 ^ (8 - r) = 0) : bits .or .u8 y (128 / 2 ^ r) = y + 2 ^ (7 - r) := by
  have e : (128 : Int) / 2 ^ r = 2 ^ (7 - r) := by
    match r, hr with
    | 0, _ => decide
    | 1, _ => decide
    | 2, _ => decide
    | 3, _ => decide
    | 4, _ => decide
    | 5, _ => decide
    | 6, _ => decide
    | 7, _ => decide
  rw [e]
  refine or_join y _ (8 - r) (by omega) h0 hy ⟨Int.pow_nonneg (by decide), ?_⟩
  rw [show 8 - r = 7 - r + 1 by omega, Int.pow_succ]
  have : (0 : Int) < 2 ^ (7 - r) := Int.pow_pos (by decide)
  omega

set_option maxRecDepth 100000 in
set_option maxHeartbeats 1600000 in
/-- 'zzs0027bpack'. -/
theorem pack_any (a : Option Addr) (c : Nat) (s : List Bool) (w : World) (hs : s.length ≤ 4096) (hsrc : Src w a s) :
    Calls Yba.prog 4 #[.slice a s.length c] w fun e w' => e = .returned (.slice (some ⟨w.heap.size, 0, none⟩) (nb s) (nb s)) ∧ PS w s s.length w' := by
  obtain ⟨i0, hi, hz0, hz1, hz2⟩ := Yba.zero5
  have hnb : nb s ≤ 513 := by unfold nb; omega
  go_enter Yba.func4, Yba.ntmps4
  go_wp2_with (at_make; refine wpList_make_full _ rfl _ _ 25 rfl w.heap.size 5 i0 (.int .u8 0) 1 Yba.underlying25 hi hz0 hz1 .i64 .i64 _ _ (nb s) rfl rfl (by unfold nb; omega) (by unfold nb; omega) (by rw [hz2]; omega) (by unfold maxLen; omega) (Nat.le_refl _) ?_; intro w1 hown hgrow)
  have HL : Hid (PS w s 0 w1) := ⟨(Below.refl _ _).grown hgrow (Nat.le_refl _) (fun k h => by cases h), by
    have e : (madeCells (Value.int IntKind.u8 0).cells (nb s * 1)).toList = arr (nb s) (byteOf (s.take 0)) := by
      rw [Nat.mul_one]
      refine (toList_madeCells_one _ _).trans ?_
      rw [arr_congr (D := fun _ => 0) fun k _ => byteOf_past _ k (by simp)]
      simp [arr, List.map_const']
    rw [← e]; exact hown⟩
  clear hown hgrow
  go_loopw [4] (fun t wr => ∃ i : Nat, i ≤ s.length ∧ t = .int .i64 i ∧ PS w s i wr) (fun t _ => s.length - (intOf t).toNat)
  case atStart => exact ⟨0, Nat.zero_le _, rfl, HL.out⟩
  case round =>
    clear HL
    obtain ⟨i, hile, rfl, hP⟩ := hrel
    by_cases hlt : i < s.length
    · obtain ⟨b, o, rfl, hcell⟩ := hsrc i hlt
      have d0 : wr.cell? ⟨b, o + i, none⟩ = some (.bool (s.getD i false)) := (hP.below.cell (lt_of_cell hcell)).trans hcell
      clear hcell hsrc
      have c0 := (hP.own.cellAt (i / 8) (by unfold nb; omega)).trans (arr_at _ _ (i / 8) (by unfold nb; omega))
      have z0 := hP.own.frozenAt (i / 8)
      have hby := byteOf_bounds (s.take i) (i / 8)
      have b1 : (i : Int) < (s.length : Int) := by omega
      have b2 : (0 : Int) ≤ (i : Int) := by omega
      cases hb : s.getD i false
      · have HS : Hid (PS w s (i + 1) wr) := hP.skip hlt hb
        rw [hb] at d0
        clear hP hby c0 z0
        go_wp2_with fail
        exact ⟨⟨i + 1, by omega, by go_num, HS.out⟩, by simp [intOf]; omega⟩
      · have HS : Hid _ := hP.put hlt hb
        have hlow := byteOf_low (s.take i) (i / 8) (i % 8) (by omega) (by simp; omega)
        rw [hb] at d0
        clear hP
        generalize byteOf (s.take i) (i / 8) = y at *
        have b3 : (i : Int) / 8 < (nb s : Int) := by unfold nb; omega
        go_wp2_with fail
        rw [or_bit y (i % 8) (by omega) hby hlow]
        exact ⟨⟨i + 1, by omega, by go_num, HS.out⟩, by simp [intOf]; omega⟩
    · obtain rfl : i = s.length := by omega
      have HS : Hid _ := hP
      clear hP
      go_wp2_with fail
      go_ret
      exact ⟨rfl, HS.out⟩
end Go.Proofs.Ybulkno
