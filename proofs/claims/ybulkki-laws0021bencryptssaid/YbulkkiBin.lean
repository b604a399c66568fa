import Derived.Test.YbulkkiArr
import Derived.Lib.EndianBits
import Derived.Deep.QuietTactic
import Derived.BigQuiet
import Derived.Laws.IdiomCopy
import Derived.Stop.LaidErr
namespace Go.Proofs.Ybulkki
open Go.RowKit

/-- Byte j of a word, the greatest first. -/
def byt (v : Int) : Nat → Int
  | 0 => v / 72057594037927936
  | 1 => v / 281474976710656 % 256
  | 2 => v / 1099511627776 % 256
  | 3 => v / 4294967296 % 256
  | 4 => v / 16777216 % 256
  | 5 => v / 65536 % 256
  | 6 => v / 256 % 256
  | _ => v % 256
/-- The word that eight bytes spell. -/
def word (b : Nat → Int) : Int := b 7 + b 6 * 256 + b 5 * 65536 + b 4 * 16777216 + b 3 * 4294967296 + b 2 * 1099511627776 + b 1 * 281474976710656 + b 0 * 72057594037927936
theorem byt_bounds (v : Int) (h0 : 0 ≤ v) (h1 : v < 18446744073709551616) (j : Nat) : 0 ≤ byt v j ∧ byt v j ≤ 255 := by
  unfold byt; split <;> omega
theorem word_byt (v : Int) : word (byt v) = v := by
  simp only [word, byt]; omega
theorem word_congr {a b : Nat → Int} (h : ∀ j, j < 8 → a j = b j) : word a = word b := by
  simp only [word, h 0 (by omega), h 1 (by omega), h 2 (by omega), h 3 (by omega), h 4 (by omega), h 5 (by omega), h 6 (by omega), h 7 (by omega)]

set_option maxHeartbeats 8000000 in
set_option maxRecDepth 100000 in
/-- binary.BigEndian.PutUint64. -/
theorem put64_any (g o n c : Nat) (v : Int) (h0 : 0 ≤ v) (h1 : v < 18446744073709551616) (w : World) (hn : 8 ≤ n) (ht : w.there g o 8) :
    Calls Yba.prog 16 #[.agg #[], .slice (some ⟨g, o, none⟩) n c, .int .u64 v] w fun e w' => e = .returned (.tuple #[]) ∧ w' = (w.alloc (.cells #[] 46)).setCells g o (arr 8 (byt v)) := by
  have d : ∀ j, j < 8 → (∃ x, (w.alloc (.cells #[] 46)).cell? ⟨g, o + j, none⟩ = some x) ∧ (w.alloc (.cells #[] 46)).frozen? ⟨g, o + j, none⟩ = false := fun j hj => by
    obtain ⟨p, q⟩ := ht j hj
    obtain ⟨x, hx⟩ := Option.isSome_iff_exists.1 p
    have hl := lt_of_cell hx
    rw [World.cell?_alloc_past _ _ _ hl, World.frozen?_alloc_past _ _ _ hl]
    exact ⟨⟨x, hx⟩, q⟩
  obtain ⟨⟨x0, c0⟩, f0⟩ := d 0 (by omega)
  obtain ⟨⟨x1, c1⟩, f1⟩ := d 1 (by omega)
  obtain ⟨⟨x2, c2⟩, f2⟩ := d 2 (by omega)
  obtain ⟨⟨x3, c3⟩, f3⟩ := d 3 (by omega)
  obtain ⟨⟨x4, c4⟩, f4⟩ := d 4 (by omega)
  obtain ⟨⟨x5, c5⟩, f5⟩ := d 5 (by omega)
  obtain ⟨⟨x6, c6⟩, f6⟩ := d 6 (by omega)
  obtain ⟨⟨x7, c7⟩, f7⟩ := d 7 (by omega)
  rw [Nat.add_zero] at c0 f0
  have q0 : 0 < n := by omega
  have q1 : (1 : Int) < (n : Int) := by omega
  have q2 : (2 : Int) < (n : Int) := by omega
  have q3 : (3 : Int) < (n : Int) := by omega
  have q4 : (4 : Int) < (n : Int) := by omega
  have q5 : (5 : Int) < (n : Int) := by omega
  have q6 : (6 : Int) < (n : Int) := by omega
  have q7 : (7 : Int) < (n : Int) := by omega
  clear d ht
  go_enter Yba.func16, Yba.ntmps16
  go_wp2
  go_end0
  exact ⟨rfl, rfl⟩

set_option maxHeartbeats 8000000 in
set_option maxRecDepth 100000 in
/-- binary.BigEndian.Uint64. -/
theorem get64_any (g o n c : Nat) (b : Nat → Int) (hb : ∀ j, j < 8 → 0 ≤ b j ∧ b j ≤ 255) (w : World) (hn : 8 ≤ n) (hc : ∀ j, j < 8 → w.cell? ⟨g, o + j, none⟩ = some (.int .u8 (b j))) :
    Calls Yba.prog 15 #[.agg #[], .slice (some ⟨g, o, none⟩) n c] w fun e w' => e = .returned (.int .u64 (word b)) ∧ Below w.heap.size w w' := by
  have d0 := cell?_alloc_old (.cells #[] 46) (hc 0 (by omega))
  have d1 := cell?_alloc_old (.cells #[] 46) (hc 1 (by omega))
  have d2 := cell?_alloc_old (.cells #[] 46) (hc 2 (by omega))
  have d3 := cell?_alloc_old (.cells #[] 46) (hc 3 (by omega))
  have d4 := cell?_alloc_old (.cells #[] 46) (hc 4 (by omega))
  have d5 := cell?_alloc_old (.cells #[] 46) (hc 5 (by omega))
  have d6 := cell?_alloc_old (.cells #[] 46) (hc 6 (by omega))
  have d7 := cell?_alloc_old (.cells #[] 46) (hc 7 (by omega))
  rw [Nat.add_zero] at d0
  obtain ⟨l0, u0⟩ := hb 0 (by omega)
  obtain ⟨l1, u1⟩ := hb 1 (by omega)
  obtain ⟨l2, u2⟩ := hb 2 (by omega)
  obtain ⟨l3, u3⟩ := hb 3 (by omega)
  obtain ⟨l4, u4⟩ := hb 4 (by omega)
  obtain ⟨l5, u5⟩ := hb 5 (by omega)
  obtain ⟨l6, u6⟩ := hb 6 (by omega)
  obtain ⟨l7, u7⟩ := hb 7 (by omega)
  have HW : Hid (word b = b 7 + b 6 * 256 + b 5 * 65536 + b 4 * 16777216 + b 3 * 4294967296 + b 2 * 1099511627776 + b 1 * 281474976710656 + b 0 * 72057594037927936) := rfl
  have q0 : 0 < n := by omega
  have q1 : (1 : Int) < (n : Int) := by omega
  have q2 : (2 : Int) < (n : Int) := by omega
  have q3 : (3 : Int) < (n : Int) := by omega
  have q4 : (4 : Int) < (n : Int) := by omega
  have q5 : (5 : Int) < (n : Int) := by omega
  have q6 : (6 : Int) < (n : Int) := by omega
  have q7 : (7 : Int) < (n : Int) := by omega
  clear hc hb
  generalize b 0 = b0 at *
  generalize b 1 = b1 at *
  generalize b 2 = b2 at *
  generalize b 3 = b3 at *
  generalize b 4 = b4 at *
  generalize b 5 = b5 at *
  generalize b 6 = b6 at *
  generalize b 7 = b7 at *
  go_enter Yba.func15, Yba.ntmps15
  go_wp2
  go_quiet (fail)
  go_wp2
  go_ret
  refine ⟨?_, ((Below.refl _ w).alloc (Nat.le_refl _) _).trans ⟨rfl, rfl, rfl, Nat.le_refl _, fun _ _ => rfl⟩⟩
  rw [HW.out]
  simp (disch := omega) only [u64_or8, u64_or16, u64_or24, u64_or32, u64_or40, u64_or48, u64_or56]
  rfl
end Go.Proofs.Ybulkki
