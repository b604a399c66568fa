import Derived.Test.YbulkkiBin
namespace Go.Proofs.Ybulkki
open Go.RowKit

/-- The sixteen bytes of hi and lo. -/
def pb (hi lo : Int) (j : Nat) : Int := if j < 8 then byt hi j else byt lo (j - 8)

theorem setCells_grown (b : Nat) : ∀ (vs : List Value) (o : Nat) (w : World), w.grownBy (w.setCells b o vs) (some b)
  | [], _, w => ⟨rfl, rfl, rfl, Nat.le_refl _, fun _ _ _ => rfl⟩
  | v :: vs, o, w => by
    have h := setCells_grown b vs (o + 1) (w.setCell ⟨b, o, none⟩ v)
    exact ⟨h.os, h.tape, h.output, Nat.le_trans (by simp [World.setCell]) h.size, fun k hk hb => (h.block k (by simpa [World.setCell] using hk) hb).trans (Below.heap_setCell _ _ _ _ (fun e => hb (by rw [e])))⟩

/-- What 'put' leaves: sixteen bytes in block g; of what was there nothing else has turned. -/
structure Put (g : Nat) (hi lo : Int) (w w' : World) : Prop where
  grown : w.grownBy w' (some g)
  cell : ∀ j, j < 16 → w'.cell? ⟨g, j, none⟩ = some (.int .u8 (pb hi lo j))
  froz : ∀ j, w'.frozen? ⟨g, j, none⟩ = w.frozen? ⟨g, j, none⟩

/-- What 'PutUint64' leaves. -/
structure Half (g o : Nat) (v : Int) (w w' : World) : Prop where
  grown : w.grownBy w' (some g)
  cell : ∀ j, j < 8 → w'.cell? ⟨g, o + j, none⟩ = some (.int .u8 (byt v j))
  keep : ∀ j, j < o ∨ o + 8 ≤ j → g < w.heap.size → w'.cell? ⟨g, j, none⟩ = w.cell? ⟨g, j, none⟩
  froz : ∀ j, g < w.heap.size → w'.frozen? ⟨g, j, none⟩ = w.frozen? ⟨g, j, none⟩

theorem half_any (g o n c : Nat) (v : Int) (h0 : 0 ≤ v) (h1 : v < 18446744073709551616) (w : World) (hn : 8 ≤ n) (ht : w.there g o 8) :
    Calls Yba.prog 16 #[.agg #[], .slice (some ⟨g, o, none⟩) n c, .int .u64 v] w fun e w' => e = .returned (.tuple #[]) ∧ Half g o v w w' := by
  refine (put64_any g o n c v h0 h1 w hn ht).mono ?_
  rintro e w' ⟨rfl, rfl⟩
  have hb : Below w.heap.size w (w.alloc (.cells #[] 46)) := (Below.refl _ _).alloc (Nat.le_refl _) _
  have hs := setCells_grown g (arr 8 (byt v)) o (w.alloc (.cells #[] 46))
  have ht' : (w.alloc (.cells #[] 46)).there g o 8 := World.there_alloc ht _
  refine ⟨rfl, ⟨hs.os, hs.tape, hs.output, Nat.le_trans hb.size hs.size, fun k hk hne => (hs.block k (by simp; omega) hne).trans (hb.block k hk)⟩, fun j hj => ?_, fun j hj hg => ?_, fun j hg => ?_⟩
  · exact World.rangeAt_setCells_same _ _ _ _ (by rw [arr_length]; exact ht') j _ (arr_at 8 (byt v) j hj)
  · rw [← hb.cell (p := ⟨g, j, none⟩) hg]
    exact World.cell?_setCells_out _ _ _ _ _ (fun _ _ => by rw [arr_length]; exact hj)
  · rw [World.frozen?_setCells]
    exact hb.frozen (p := ⟨g, j, none⟩) hg

theorem lt_of_there {w : World} {g o n : Nat} (h : w.there g o n) (hn : 0 < n) : g < w.heap.size := by
  obtain ⟨p, _⟩ := h 0 hn
  obtain ⟨x, hx⟩ := Option.isSome_iff_exists.1 p
  exact lt_of_cell hx

set_option maxHeartbeats 1600000 in
set_option maxRecDepth 100000 in
theorem put_any (g : Nat) (hi lo : Int) (h0 : 0 ≤ hi) (h1 : hi < 18446744073709551616) (l0 : 0 ≤ lo) (l1 : lo < 18446744073709551616) (w : World) (ht : w.there g 0 16) :
    Calls Yba.prog 14 #[.agg #[.int .u64 hi, .int .u64 lo], .pointer (some ⟨g, 0, none⟩)] w fun e w' => e = .returned (.tuple #[]) ∧ Put g hi lo w w' := by
  have hg : g < w.heap.size := lt_of_there ht (by omega)
  have hB : Below w.heap.size w (w.alloc (.cells #[.int .u64 hi, .int .u64 lo] 25)) := (Below.refl _ _).alloc (Nat.le_refl _) _
  have hN : w.heap.size < (w.alloc (.cells #[.int .u64 hi, .int .u64 lo] 25)).heap.size := by simp
  have ht0 : (w.alloc (.cells #[.int .u64 hi, .int .u64 lo] 25)).there g 0 16 := World.there_alloc ht _
  have c0 : (w.alloc (.cells #[.int .u64 hi, .int .u64 lo] 25)).cell? ⟨w.heap.size, 0, none⟩ = some (.int .u64 hi) := by simp
  have c1 : (w.alloc (.cells #[.int .u64 hi, .int .u64 lo] 25)).cell? ⟨w.heap.size, 1, none⟩ = some (.int .u64 lo) := by simp
  go_enter Yba.func14, Yba.ntmps14
  go_wp2_with fail
  generalize w.alloc (.cells #[.int .u64 hi, .int .u64 lo] 25) = w0 at *
  go_region_held3 (fun w' => w'.cell? ⟨w.heap.size, 0, none⟩ = some (.int .u64 hi) ∧ w'.cell? ⟨w.heap.size, 1, none⟩ = some (.int .u64 lo)) (go_keep)
    ((go_at_call 16; refine (half_any g 0 8 16 hi h0 h1 _ (by omega) (by exact fun j hj => by simpa using ht0 j (by omega))).mono ?_; rintro e w1 ⟨rfl, hh⟩; have s0 := (World.cell?_of_block (a := ⟨w.heap.size, 0, none⟩) (hh.grown.block w.heap.size hN (by simp; omega))).trans ((World.cell?_drew _ _).trans c0); have s1 := (World.cell?_of_block (a := ⟨w.heap.size, 1, none⟩) (hh.grown.block w.heap.size hN (by simp; omega))).trans ((World.cell?_drew _ _).trans c1)))
  have hg0 : g < w0.drew.heap.size := Nat.lt_of_lt_of_le hg hB.size
  have hN1 : w.heap.size < w1.heap.size := Nat.lt_of_lt_of_le hN hh.grown.size
  have ht1 : w1.there g 8 8 := fun j hj => by
    rw [hh.keep (8 + j) (by omega) hg0, hh.froz (8 + j) hg0, World.cell?_drew, World.frozen?_drew]
    simpa using ht0 (8 + j) (by omega)
  go_wp2_with fail
  go_region_held3 (fun w' => w'.cell? ⟨w.heap.size, 0, none⟩ = some (.int .u64 hi) ∧ w'.cell? ⟨w.heap.size, 1, none⟩ = some (.int .u64 lo)) (go_keep)
    ((go_at_call 16; refine (half_any g 8 8 8 lo l0 l1 _ (by omega) (by exact fun j hj => by simpa using ht1 j (by omega))).mono ?_; rintro e w2 ⟨rfl, hh2⟩; have z0 := (World.cell?_of_block (a := ⟨w.heap.size, 0, none⟩) (hh2.grown.block w.heap.size hN1 (by simp; omega))).trans ((World.cell?_drew _ _).trans s0); have z1 := (World.cell?_of_block (a := ⟨w.heap.size, 1, none⟩) (hh2.grown.block w.heap.size hN1 (by simp; omega))).trans ((World.cell?_drew _ _).trans s1)))
  have hg1 : g < w1.drew.heap.size := Nat.lt_of_lt_of_le hg0 hh.grown.size
  go_end0
  refine ⟨rfl, ⟨?_, ?_, ?_, ?_, fun k hk hne => ?_⟩, fun j hj => ?_, fun j => ?_⟩
  · exact hh2.grown.os.trans (hh.grown.os.trans hB.os)
  · exact hh2.grown.tape.trans (hh.grown.tape.trans hB.tape)
  · exact hh2.grown.output.trans (hh.grown.output.trans hB.output)
  · exact Nat.le_trans hB.size (Nat.le_trans hh.grown.size hh2.grown.size)
  · exact (hh2.grown.block k (Nat.lt_of_lt_of_le hk (Nat.le_trans hB.size hh.grown.size)) hne).trans ((hh.grown.block k (Nat.lt_of_lt_of_le hk hB.size) hne).trans (hB.block k hk))
  · unfold pb
    by_cases e : j < 8
    · rw [if_pos e, hh2.keep j (by omega) hg1, World.cell?_drew]
      have := hh.cell j e
      rwa [Nat.zero_add] at this
    · rw [if_neg e]
      have := hh2.cell (j - 8) (by omega)
      rwa [show 8 + (j - 8) = j by omega] at this
  · rw [hh2.froz j hg1, World.frozen?_drew, hh.froz j hg0, World.frozen?_drew]
    exact hB.frozen (p := ⟨g, j, none⟩) hg
end Go.Proofs.Ybulkki
