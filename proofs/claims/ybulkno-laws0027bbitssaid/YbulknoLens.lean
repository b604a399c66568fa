import Derived.Test.YbulknoPlain
import Derived.WalkKit
namespace Go.Proofs.Ybulkno
open Go.RowKit

theorem bitLenAux_spec : ∀ (f x : Nat), x < 2 ^ f → Lib.bitLenAux f x ≤ f ∧ x / 2 ^ Lib.bitLenAux f x = 0 ∧ ∀ j, j < Lib.bitLenAux f x → x / 2 ^ j ≠ 0
  | 0, x, h => ⟨Nat.le_refl _, by simp at h; simp [h], fun j hj => by simp [Lib.bitLenAux] at hj⟩
  | f + 1, x, h => by
    rw [Lib.bitLenAux]
    by_cases e : x = 0
    · subst e; simp
    · rw [if_neg e]
      obtain ⟨h1, h2, h3⟩ := bitLenAux_spec f (x / 2) (by rw [Nat.pow_succ] at h; omega)
      refine ⟨by omega, by rw [Nat.pow_add, ← Nat.div_div_eq_div_mul]; exact h2, fun j hj => ?_⟩
      match j with
      | 0 => simpa using e
      | j + 1 => rw [Nat.add_comm j 1, Nat.pow_add, ← Nat.div_div_eq_div_mul]; exact h3 j (by omega)
/-- How many bits x needs. -/
def blen (x : Int) : Nat := Lib.bitLen x.toNat
theorem blen_spec (x : Int) (h0 : 0 ≤ x) (h1 : x < 18446744073709551616) : blen x ≤ 64 ∧ x / 2 ^ blen x = 0 ∧ ∀ j, j < blen x → x / 2 ^ j ≠ 0 := by
  obtain ⟨n, rfl⟩ := Int.eq_ofNat_of_zero_le h0
  obtain ⟨a, b, c⟩ := bitLenAux_spec 64 n (by omega)
  have e : blen (n : Int) = Lib.bitLenAux 64 n := by simp [blen, Lib.bitLen]
  rw [e]
  have cst : ∀ j : Nat, (n : Int) / 2 ^ j = ((n / 2 ^ j : Nat) : Int) := fun j => by simp
  exact ⟨a, by rw [cst, b]; rfl, fun j hj => by rw [cst]; have := c j hj; omega⟩
/-- How many octets x needs, at least one. -/
def olen (x : Int) : Nat := max 1 ((blen x + 7) / 8)
theorem olen_bounds (x : Int) (h0 : 0 ≤ x) (h1 : x < 18446744073709551616) : 1 ≤ olen x ∧ olen x ≤ 8 := by
  have := (blen_spec x h0 h1).1
  unfold olen; omega
theorem blen_unique (x : Int) (h0 : 0 ≤ x) (h1 : x < 18446744073709551616) (k : Nat) (h : ∀ j, j < k → x / 2 ^ j ≠ 0) (he : k = 64 ∨ x / 2 ^ k = 0) : k = blen x := by
  obtain ⟨a, b, c⟩ := blen_spec x h0 h1
  rcases Nat.lt_trichotomy k (blen x) with hlt | heq | hgt
  · rcases he with he | he
    · omega
    · exact absurd he (c k hlt)
  · exact heq
  · exact absurd b (h _ hgt)
theorem div_zero_up (x : Int) (a b : Nat) (hab : a ≤ b) (h : x / 2 ^ a = 0) : x / 2 ^ b = 0 := by
  obtain ⟨c, rfl⟩ := Nat.exists_eq_add_of_le hab
  rw [Int.pow_add, ← Int.ediv_ediv_of_nonneg (Int.pow_nonneg (by decide)), h, Int.zero_ediv]
theorem olen_unique (x : Int) (h0 : 0 ≤ x) (h1 : x < 18446744073709551616) (n : Nat) (hn1 : 1 ≤ n) (hn : n ≤ 8) (h : ∀ j, 1 ≤ j → j < n → x / 2 ^ (8 * j) ≠ 0) (he : n = 8 ∨ x / 2 ^ (8 * n) = 0) : n = olen x := by
  obtain ⟨a, b, c⟩ := blen_spec x h0 h1
  rcases Nat.lt_trichotomy n (olen x) with hlt | heq | hgt
  · unfold olen at hlt
    rcases he with he | he
    · omega
    · exact absurd he (c _ (by omega))
  · exact heq
  · exact absurd (div_zero_up x _ _ (by unfold olen; omega) b) (h (olen x) (by unfold olen; omega) hgt)

set_option maxRecDepth 100000 in
/-- 'zzs0027bwidth'. -/
theorem width_any (x : Int) (h0 : 0 ≤ x) (h1 : x < 18446744073709551616) (w : World) :
    Calls Yba.prog 7 #[.int .u64 x] w fun e w' => e = .returned (.int .i64 (blen x)) ∧ w' = w := by
  go_enter Yba.func7, Yba.ntmps7
  go_wp2_with fail
  go_loopw [3] (fun t wr => ∃ k : Nat, k ≤ 64 ∧ (∀ j, j < k → x / 2 ^ j ≠ 0) ∧ t = .int .i64 k ∧ wr = w) (fun t _ => 64 - (intOf t).toNat)
  case atStart => exact ⟨0, Nat.zero_le _, fun j hj => absurd hj (Nat.not_lt_zero j), rfl, rfl⟩
  case round =>
    obtain ⟨k, hk, hj, rfl, rfl⟩ := hrel
    have HJ : Hid _ := hj
    clear hj
    have b2 : (0 : Int) ≤ (k : Int) := by omega
    by_cases hlt : k < 64
    · have b1 : (k : Int) < 64 := by omega
      by_cases hz : x / 2 ^ k = 0
      · have HU : Hid (k = blen x) := blen_unique x h0 h1 k HJ.out (.inr hz)
        go_wp2_with fail
        go_ret
        exact ⟨by rw [← HU.out]; rfl, rfl⟩
      · have HN : Hid (∀ j, j < k + 1 → x / 2 ^ j ≠ 0) := fun j hj => by
          by_cases e : j = k
          · subst e; exact hz
          · exact HJ.out j (by omega)
        go_wp2_with fail
        exact ⟨⟨k + 1, by omega, HN.out, by go_num, trivial⟩, by simp [intOf]; omega⟩
    · obtain rfl : k = 64 := by omega
      have HU : Hid (64 = blen x) := blen_unique x h0 h1 64 HJ.out (.inl rfl)
      go_wp2_with fail
      go_ret
      exact ⟨by rw [← HU.out]; rfl, rfl⟩

set_option maxRecDepth 100000 in
/-- 'zzs0027boct'. -/
theorem oct_any (x : Int) (h0 : 0 ≤ x) (h1 : x < 18446744073709551616) (w : World) :
    Calls Yba.prog 9 #[.int .u64 x] w fun e w' => e = .returned (.int .i64 (olen x)) ∧ w' = w := by
  go_enter Yba.func9, Yba.ntmps9
  go_wp2_with fail
  go_loopw [3] (fun t wr => ∃ k : Nat, 1 ≤ k ∧ k ≤ 8 ∧ (∀ j, 1 ≤ j → j < k → x / 2 ^ (8 * j) ≠ 0) ∧ t = .int .i64 k ∧ wr = w) (fun t _ => 8 - (intOf t).toNat)
  case atStart => exact ⟨1, Nat.le_refl _, by omega, fun j ha hb => by omega, rfl, rfl⟩
  case round =>
    obtain ⟨k, hk1, hk, hj, rfl, rfl⟩ := hrel
    have HJ : Hid _ := hj
    clear hj
    have b2 : (0 : Int) ≤ (k : Int) := by omega
    by_cases hlt : k < 8
    · have b1 : (k : Int) < 8 := by omega
      by_cases hz : x / 2 ^ (8 * k) = 0
      · have HU : Hid (k = olen x) := olen_unique x h0 h1 k hk1 hk HJ.out (.inr hz)
        go_wp2_with fail
        go_ret
        exact ⟨by rw [← HU.out]; rfl, rfl⟩
      · have HN : Hid (∀ j, 1 ≤ j → j < k + 1 → x / 2 ^ (8 * j) ≠ 0) := fun j ha hj => by
          by_cases e : j = k
          · subst e; exact hz
          · exact HJ.out j ha (by omega)
        go_wp2_with fail
        exact ⟨⟨k + 1, by omega, by omega, HN.out, by go_num, trivial⟩, by simp [intOf]; omega⟩
    · obtain rfl : k = 8 := by omega
      have HU : Hid (8 = olen x) := olen_unique x h0 h1 8 hk1 hk HJ.out (.inl rfl)
      go_wp2_with fail
      go_ret
      exact ⟨by rw [← HU.out]; rfl, rfl⟩

theorem len64_b (x : Int) (h0 : 0 ≤ x) (h1 : x < 18446744073709551616) (w : World) :
    Calls Yba.prog 11 #[.int .u64 x] w fun e w' => e = .returned (.int .i64 (blen x)) ∧ w' = w := len64_any x w h0 (by omega)

set_option maxRecDepth 100000 in
/-- 'octetLen'. -/
theorem octetLen_any (x : Int) (h0 : 0 ≤ x) (h1 : x < 18446744073709551616) (w : World) :
    Calls Yba.prog 13 #[.int .u64 x] w fun e w' => e = .returned (.int .i64 (olen x)) ∧ w' = w := by
  have HO : Hid (olen x = max 1 ((blen x + 7) / 8)) := rfl
  have hb := (blen_spec x h0 h1).1
  go_enter Yba.func13, Yba.ntmps13
  go_wp2_with fail
  refine (len64_b x h0 h1 w).mono ?_
  rintro e w' ⟨rfl, rfl⟩
  generalize blen x = k at *
  go_wp2_with fail
  go_ret
  refine ⟨?_, rfl⟩
  rw [HO.out]
  have e : max 1 (((k : Int) + 7) / 8) = ((max 1 ((k + 7) / 8) : Nat) : Int) := by omega
  show Ending.returned (Value.int IntKind.i64 (max 1 (((k : Int) + 7) / 8))) = _
  rw [e]
end Go.Proofs.Ybulkno
