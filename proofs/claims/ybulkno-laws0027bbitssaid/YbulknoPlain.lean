import Derived.Test.YbulknoShelf
namespace Go.Proofs.Ybulkno

/-! ### Bits and bytes, no Go in sight -/
/-- The t low bits of x, the greatest first. -/
def bitsOf (x : Int) : Nat → List Bool
  | 0 => []
  | t + 1 => decide (x / 2 ^ t % 2 = 1) :: bitsOf x t
theorem bitsOf_length (x : Int) : ∀ t, (bitsOf x t).length = t
  | 0 => rfl
  | t + 1 => by rw [bitsOf, List.length_cons, bitsOf_length x t]
theorem bitsOf_split (x : Int) (m : Nat) : ∀ t, bitsOf (x / 2 ^ m) t ++ bitsOf x m = bitsOf x (t + m)
  | 0 => by rw [bitsOf, List.nil_append, Nat.zero_add]
  | t + 1 => by
    rw [bitsOf, List.cons_append, bitsOf_split x m t, Nat.add_right_comm, bitsOf]
    congr 2
    rw [Int.ediv_ediv_of_nonneg (Int.pow_nonneg (by decide)), ← Int.pow_add, Nat.add_comm m t]
/-- Bit i as a number; 0 behind the end. -/
def bv (s : List Bool) (i : Nat) : Int := if s[i]? = some true then 1 else 0
theorem bv_past (s : List Bool) (i : Nat) (h : s.length ≤ i) : bv s i = 0 := by
  unfold bv; rw [List.getElem?_eq_none h]; rfl
theorem bv_one (s : List Bool) (b : Bool) (i : Nat) : bv (s ++ [b]) i = if i = s.length then (if b then 1 else 0) else bv s i := by
  by_cases e : i = s.length
  · subst e; rw [if_pos rfl]; unfold bv; rw [List.getElem?_append_right (Nat.le_refl _)]; cases b <;> simp
  · rw [if_neg e]
    by_cases h : i < s.length
    · unfold bv; rw [List.getElem?_append_left h]
    · rw [bv_past _ _ (by simp; omega), bv_past _ _ (by omega)]
theorem bv_bounds (s : List Bool) (i : Nat) : 0 ≤ bv s i ∧ bv s i ≤ 1 := by unfold bv; split <;> omega
/-- Byte k. -/
def byteOf (s : List Bool) (k : Nat) : Int := bv s (8 * k) * 128 + bv s (8 * k + 1) * 64 + bv s (8 * k + 2) * 32 + bv s (8 * k + 3) * 16 + bv s (8 * k + 4) * 8 + bv s (8 * k + 5) * 4 + bv s (8 * k + 6) * 2 + bv s (8 * k + 7)
theorem byteOf_bounds (s : List Bool) (k : Nat) : 0 ≤ byteOf s k ∧ byteOf s k ≤ 255 := by
  have h0 := bv_bounds s (8 * k)
  have h1 := bv_bounds s (8 * k + 1)
  have h2 := bv_bounds s (8 * k + 2)
  have h3 := bv_bounds s (8 * k + 3)
  have h4 := bv_bounds s (8 * k + 4)
  have h5 := bv_bounds s (8 * k + 5)
  have h6 := bv_bounds s (8 * k + 6)
  have h7 := bv_bounds s (8 * k + 7)
  unfold byteOf
  omega
theorem byteOf_one (s : List Bool) (b : Bool) (q r : Nat) (hr : r < 8) (hl : s.length = 8 * q + r) (k : Nat) :
    byteOf (s ++ [b]) k = byteOf s k + if k = q then (if b then 2 ^ (7 - r) else 0) else 0 := by
  unfold byteOf
  simp only [bv_one, hl]
  by_cases e : k = q
  · subst e
    rw [if_pos rfl]
    have hp : bv s (8 * k + r) = 0 := bv_past _ _ (by omega)
    match r, hr with
    | 0, _ => simp at hp; simp [hp]; cases b <;> simp <;> omega
    | 1, _ => simp [hp]; cases b <;> simp <;> omega
    | 2, _ => simp [hp]; cases b <;> simp <;> omega
    | 3, _ => simp [hp]; cases b <;> simp <;> omega
    | 4, _ => simp [hp]; cases b <;> simp <;> omega
    | 5, _ => simp [hp]; cases b <;> simp <;> omega
    | 6, _ => simp [hp]; cases b <;> simp <;> omega
    | 7, _ => simp [hp]
  · rw [if_neg e, if_neg (by omega), if_neg (by omega), if_neg (by omega), if_neg (by omega), if_neg (by omega), if_neg (by omega), if_neg (by omega), if_neg (by omega), Int.add_zero]
theorem byteOf_past (s : List Bool) (k : Nat) (h : s.length ≤ 8 * k) : byteOf s k = 0 := by
  unfold byteOf
  rw [bv_past _ _ h, bv_past _ _ (by omega), bv_past _ _ (by omega), bv_past _ _ (by omega), bv_past _ _ (by omega), bv_past _ _ (by omega), bv_past _ _ (by omega), bv_past _ _ (by omega)]
  rfl
theorem byteOf_low (s : List Bool) (k r : Nat) (hr : r ≤ 8) (hl : s.length ≤ 8 * k + r) : byteOf s k % 2 ^ (8 - r) = 0 := by
  unfold byteOf
  match r, hr with
  | 0, _ => rw [bv_past s (8 * k) hl, bv_past s (8 * k + 1) (by omega), bv_past s (8 * k + 2) (by omega), bv_past s (8 * k + 3) (by omega), bv_past s (8 * k + 4) (by omega), bv_past s (8 * k + 5) (by omega), bv_past s (8 * k + 6) (by omega), bv_past s (8 * k + 7) (by omega)]; rfl
  | 1, _ => rw [bv_past s (8 * k + 1) (by omega), bv_past s (8 * k + 2) (by omega), bv_past s (8 * k + 3) (by omega), bv_past s (8 * k + 4) (by omega), bv_past s (8 * k + 5) (by omega), bv_past s (8 * k + 6) (by omega), bv_past s (8 * k + 7) (by omega)]; simp only [Nat.reduceSub, Int.reducePow]; omega
  | 2, _ => rw [bv_past s (8 * k + 2) (by omega), bv_past s (8 * k + 3) (by omega), bv_past s (8 * k + 4) (by omega), bv_past s (8 * k + 5) (by omega), bv_past s (8 * k + 6) (by omega), bv_past s (8 * k + 7) (by omega)]; simp only [Nat.reduceSub, Int.reducePow]; omega
  | 3, _ => rw [bv_past s (8 * k + 3) (by omega), bv_past s (8 * k + 4) (by omega), bv_past s (8 * k + 5) (by omega), bv_past s (8 * k + 6) (by omega), bv_past s (8 * k + 7) (by omega)]; simp only [Nat.reduceSub, Int.reducePow]; omega
  | 4, _ => rw [bv_past s (8 * k + 4) (by omega), bv_past s (8 * k + 5) (by omega), bv_past s (8 * k + 6) (by omega), bv_past s (8 * k + 7) (by omega)]; simp only [Nat.reduceSub, Int.reducePow]; omega
  | 5, _ => rw [bv_past s (8 * k + 5) (by omega), bv_past s (8 * k + 6) (by omega), bv_past s (8 * k + 7) (by omega)]; simp only [Nat.reduceSub, Int.reducePow]; omega
  | 6, _ => rw [bv_past s (8 * k + 6) (by omega), bv_past s (8 * k + 7) (by omega)]; simp only [Nat.reduceSub, Int.reducePow]; omega
  | 7, _ => rw [bv_past s (8 * k + 7) (by omega)]; simp only [Nat.reduceSub, Int.reducePow]; omega
  | 8, _ => simp only [Nat.reduceSub, Int.reducePow]; omega
theorem byteOf_keep (x : Int) (k : Nat) : ∀ (t : Nat) (s : List Bool), 8 * k + 8 ≤ s.length → byteOf (s ++ bitsOf x t) k = byteOf s k
  | 0, s, _ => by rw [bitsOf, List.append_nil]
  | t + 1, s, h => by
    rw [bitsOf, List.append_cons, byteOf_keep x k t _ (by simp; omega), byteOf_one s _ (s.length / 8) (s.length % 8) (by omega) (by omega), if_neg (by omega), Int.add_zero]
theorem emod_two (x p : Int) (hp : 0 ≤ p) : x % (p * 2) = x % p + p * (x / p % 2) := by
  rw [Int.emod_def x (p * 2), Int.emod_def x p, Int.emod_def (x / p) 2, ← Int.ediv_ediv_of_nonneg hp, Int.mul_sub, Int.mul_assoc]
  omega
theorem byteOf_bits (x : Int) (k : Nat) : ∀ (t u : Nat) (s : List Bool), s.length = 8 * k + u → u + t ≤ 8 → byteOf (s ++ bitsOf x t) k = byteOf s k + x % 2 ^ t * 2 ^ (8 - u - t)
  | 0, u, s, _, _ => by rw [bitsOf, List.append_nil, Int.pow_zero, Int.emod_one, Int.zero_mul, Int.add_zero]
  | t + 1, u, s, hl, ht => by
    rw [bitsOf, List.append_cons, byteOf_bits x k t (u + 1) _ (by simp [hl]; omega) (by omega), byteOf_one s _ k u (by omega) hl, if_pos rfl]
    have e1 : x % 2 ^ (t + 1) = x % 2 ^ t + 2 ^ t * (x / 2 ^ t % 2) := by
      rw [Int.pow_succ]
      exact emod_two x (2 ^ t) (Int.pow_nonneg (by decide))
    have e2 : (2 : Int) ^ (7 - u) = 2 ^ t * 2 ^ (8 - (u + 1) - t) := by rw [← Int.pow_add]; congr 1; omega
    have e3 : 8 - u - (t + 1) = 8 - (u + 1) - t := by omega
    rw [e1, e3, Int.add_mul]
    have hb : x / 2 ^ t % 2 = 0 ∨ x / 2 ^ t % 2 = 1 := by omega
    rcases hb with hb | hb
    · rw [hb]; simp
    · rw [hb]; simp [e2]; omega
/-- How many bytes. -/
def nb (s : List Bool) : Nat := (s.length + 7) / 8
/-- Filled up with zeros to the next byte. -/
def padL (s : List Bool) : List Bool := s ++ List.replicate ((8 - s.length % 8) % 8) false
theorem byteOf_zeros (k : Nat) : ∀ (n : Nat) (s : List Bool), byteOf (s ++ List.replicate n false) k = byteOf s k
  | 0, s => by simp
  | n + 1, s => by
    rw [List.replicate_succ, List.append_cons, byteOf_zeros k n, byteOf_one s false (s.length / 8) (s.length % 8) (by omega) (by omega)]
    simp
theorem padL_length (s : List Bool) : (padL s).length = 8 * nb s := by
  unfold padL nb; simp; omega
theorem byteOf_pad (s : List Bool) (k : Nat) : byteOf (padL s) k = byteOf s k := byteOf_zeros _ _ _
theorem nb_pad (s : List Bool) : nb (padL s) = nb s := by
  unfold nb; rw [padL_length]; unfold nb; omega
end Go.Proofs.Ybulkno
