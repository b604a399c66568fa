import Derived.Test.YbulknoPack
import Derived.OwnWalk
import Derived.WalkSmall
import Derived.Deep.AppendLies
namespace Go.Proofs.Ybulkno
open Go.RowKit

def bl (s : List Bool) : List Value := s.map .bool
theorem bl_append (s t : List Bool) : bl (s ++ t) = bl s ++ bl t := by simp [bl]
theorem bits_next (x : Int) (k i : Nat) (hi : i + 1 ≤ k) : bitsOf (x / 2 ^ i) (k - i) = bitsOf (x / 2 ^ (i + 1)) (k - (i + 1)) ++ [decide (x / 2 ^ i % 2 = 1)] := by
  have h := bitsOf_split (x / 2 ^ i) 1 (k - (i + 1))
  rw [show k - (i + 1) + 1 = k - i by omega] at h
  rw [← h, Int.ediv_ediv_of_nonneg (Int.pow_nonneg (by decide)), ← Int.pow_add]
  simp [bitsOf]
/-- An own slice of bits. -/
structure OS (B : Nat) (w : World) (v : Value) (s : List Bool) (wr : World) : Prop where
  below : Below B w wr
  own : wr.ownsRow B 4 1 v s.length (bl s)
  size : B ≤ wr.heap.size

set_option maxRecDepth 100000 in
set_option maxHeartbeats 1600000 in
/-- 'zzs0027bput'. -/
theorem put_any (B : Nat) (v : Value) (s : List Bool) (x : Int) (k : Nat) (h0 : 0 ≤ x) (h1 : x < 18446744073709551616) (hk : k ≤ 64) (hl : s.length ≤ 4000) (w : World) (hos : OS B w v s w) :
    Calls Yba.prog 6 #[v, .int .u64 x, .int .i64 k] w fun e w' => ∃ v', e = .returned v' ∧ OS B w v' (s ++ bitsOf x k) w' := by
  obtain ⟨i0, hi, hz0, hz1, hz2⟩ := Yba.zero4
  go_enter Yba.func6, Yba.ntmps6
  go_wp2_with fail
  have HL : Hid (OS B w v (s ++ bitsOf (x / 2 ^ k) (k - k)) w) := by
    rw [Nat.sub_self, bitsOf, List.append_nil]; exact hos
  clear hos
  go_loopw [0, 7] (fun u t wr => ∃ i : Nat, i ≤ k ∧ t = .int .i64 i ∧ OS B w u (s ++ bitsOf (x / 2 ^ i) (k - i)) wr) (fun _ t _ => (intOf t).toNat)
  case atStart => exact ⟨k, Nat.le_refl _, rfl, HL.out⟩
  case round =>
    clear HL
    obtain ⟨i, hik, rfl, hP⟩ := hrel
    match i, hik, hP with
    | 0, _, hP =>
      have HP : Hid (OS B w u0 (s ++ bitsOf x k) wr) := by
        show OS B w u0 (s ++ bitsOf x k) wr
        simpa using hP
      clear hP
      go_wp2_with fail
      go_ret
      exact ⟨_, rfl, HP.out⟩
    | i + 1, hik, hP =>
      have b1 : ((i + 1 : Nat) : Int) - 1 = (i : Int) := by omega
      have b2 : (0 : Int) ≤ (i : Int) := by omega
      have b3 : (0 : Int) < ((i + 1 : Nat) : Int) := by omega
      have b4 : (i : Int) < 64 := by omega
      have hlen : (s ++ bitsOf (x / 2 ^ (i + 1)) (k - (i + 1))).length ≤ 4064 := by rw [List.length_append, bitsOf_length]; omega
      have hN : Hid (s ++ bitsOf (x / 2 ^ i) (k - i) = (s ++ bitsOf (x / 2 ^ (i + 1)) (k - (i + 1))) ++ [bits .and .u64 (x / 2 ^ i) 1 == 1]) := by
        show _ = _
        rw [bits_next x k i hik, List.append_assoc, and_one_u64 (x / 2 ^ i) (Int.ediv_nonneg h0 (Int.pow_nonneg (by decide))) (Int.le_trans (Int.ediv_le_self _ h0) (by omega))]
        rfl
      generalize s ++ bitsOf (x / 2 ^ (i + 1)) (k - (i + 1)) = S at *
      go_wp2_with (at_builtin; refine wpList_append_own _ rfl (.tmp 13) (.tmp 21) 22 rfl B 4 i0 (.bool false) 1 1 Yba.underlying22 hi hz0 hz1 hz2 rfl (by omega) _ _ _ rfl (hP.own.alloc _) ⟨wr.heap.size, 0, none⟩ 1 1 [.bool (bits .and .u64 (x / 2 ^ i) 1 == 1)] rfl rfl ?c1 ?c2 ?c3 ?c4 ?c5 ?_)
      case c1 => exact World.news_of_block (fr := (0, 0)) (heap_alloc_new wr _)
      case c2 => intro u hu; simp at hu; subst hu; rfl
      case c3 => unfold maxLen; omega
      case c4 => omega
      case c5 => simp; have := hP.size; omega
      intro v2 w2 hown2 hgrow2 _
      have hO : OS B w v2 (s ++ bitsOf (x / 2 ^ i) (k - i)) w2 := by
        rw [hN.out]
        refine ⟨?_, by rw [bl_append, List.length_append]; exact hown2, ?_⟩
        · exact (hP.below.alloc hP.size _).grown hgrow2 (by simp; have := hP.size; omega) (fun q h => (hP.own.lt q h).1)
        · exact Nat.le_trans hP.size (Nat.le_trans (by simp) hgrow2.size)
      have HO : Hid _ := hO
      clear hO hown2 hgrow2 hP hN
      go_wp2_with fail
      go_roundw
      case rel => exact ⟨i, by omega, by go_num, HO.out⟩
      case measure => simp [intOf]

theorem pad_zero (s : List Bool) (h : s.length % 8 = 0) : padL s = s := by
  unfold padL; rw [h]; simp
theorem pad_one (s : List Bool) (h : s.length % 8 ≠ 0) : padL (s ++ [false]) = padL s := by
  unfold padL
  rw [List.length_append, List.length_singleton, List.append_assoc]
  congr 1
  rw [show [false] = List.replicate 1 false from rfl, List.replicate_append_replicate]
  congr 1
  omega

/-- A slice's length. -/
def vlen : Value → Nat
  | .slice _ n _ => n
  | _ => 0
theorem own_shape {w : World} {B : Nat} {e : TypeId} {v : Value} {n : Nat} {xs : List Value} (h : w.ownsRow B e 1 v n xs) : ∃ a c, v = .slice a n c := by
  rcases h.2 with ⟨h1, h2⟩ | ⟨g, cap, cur, h1, _⟩
  · exact ⟨none, 0, by rw [h1, h2]⟩
  · exact ⟨_, _, h1⟩

set_option maxRecDepth 100000 in
set_option maxHeartbeats 1600000 in
/-- 'zzs0027bpad'. -/
theorem pad_any (B : Nat) (v : Value) (s : List Bool) (hl : s.length ≤ 4000) (w : World) (hos : OS B w v s w) :
    Calls Yba.prog 8 #[v] w fun e w' => ∃ v', e = .returned v' ∧ OS B w v' (padL s) w' := by
  obtain ⟨i0, hi, hz0, hz1, hz2⟩ := Yba.zero4
  go_enter Yba.func8, Yba.ntmps8
  go_wp2_with fail
  have HL : Hid _ := hos
  clear hos
  go_loopw [0] (fun u wr => ∃ S : List Bool, S.length ≤ 8 * nb s ∧ padL S = padL s ∧ OS B w u S wr) (fun u _ => 8 * nb s - vlen u)
  case atStart => exact ⟨s, by unfold nb; omega, rfl, HL.out⟩
  case round =>
    clear HL
    obtain ⟨S, hSl, hS, hP⟩ := hrel
    obtain ⟨a, c, rfl⟩ := own_shape hP.own
    have hlen : S.length ≤ 4007 := by unfold nb at hSl; omega
    by_cases h8 : S.length % 8 = 0
    · have HP : Hid (OS B w (.slice a S.length c) (padL s) wr) := by
        show OS B w (.slice a S.length c) (padL s) wr
        rw [← hS, pad_zero S h8]; exact hP
      have b1 : (S.length : Int) % 8 = 0 := by omega
      clear hP
      go_wp2_with fail
      go_ret
      exact ⟨_, rfl, HP.out⟩
    · have b1 : ¬ ((S.length : Int) % 8 = 0) := by omega
      have hS1 : S.length + 1 ≤ 8 * nb s := by
        omega
      have hS2 : padL (S ++ [false]) = padL s := by rw [pad_one S h8, hS]
      go_wp2_with (at_builtin; refine wpList_append_own _ rfl (.tmp 7) (.tmp 8) 22 rfl B 4 i0 (.bool false) 1 1 Yba.underlying22 hi hz0 hz1 hz2 rfl (by omega) _ _ _ rfl (hP.own.alloc _) ⟨wr.heap.size, 0, none⟩ 1 1 [.bool false] rfl rfl ?c1 ?c2 ?c3 ?c4 ?c5 ?_)
      case c1 => exact World.news_of_block (fr := (0, 0)) (heap_alloc_new wr _)
      case c2 => intro u hu; simp at hu; subst hu; rfl
      case c3 => unfold maxLen; omega
      case c4 => omega
      case c5 => simp; have := hP.size; omega
      intro v2 w2 hown2 hgrow2 _
      have hO : OS B w v2 (S ++ [false]) w2 := by
        refine ⟨?_, by rw [bl_append, List.length_append]; exact hown2, ?_⟩
        · exact (hP.below.alloc hP.size _).grown hgrow2 (by simp; have := hP.size; omega) (fun q h => (hP.own.lt q h).1)
        · exact Nat.le_trans hP.size (Nat.le_trans (by simp) hgrow2.size)
      obtain ⟨a2, c2, rfl⟩ := own_shape hown2
      have HO : Hid _ := hO
      have H2 : Hid _ := hS2
      clear hO hown2 hgrow2 hP hS hS2
      go_wp2_with fail
      go_roundw
      case rel => exact ⟨S ++ [false], by simp; omega, H2.out, HO.out⟩
      case measure => simp [vlen]; omega
end Go.Proofs.Ybulkno
