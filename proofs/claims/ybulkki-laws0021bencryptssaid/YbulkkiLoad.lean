import Derived.Test.YbulkkiPut
namespace Go.Proofs.Ybulkki
open Go.RowKit

theorem size25 : (Yba.prog.info? 25).map (·.size) = some 2 := by kernel_rfl
/-- What the walk knows between the two reads: the sixteen bytes, and the result's own two cells. -/
structure Ld (N g : Nat) (b : Nat → Int) (w : World) : Prop where
  c : ∀ j, j < 16 → w.cell? ⟨g, j, none⟩ = some (.int .u8 (b j))
  r0 : w.cell? ⟨N, 0, none⟩ = some (.int .u64 0)
  r1 : w.cell? ⟨N, 1, none⟩ = some (.int .u64 0)
  z : ∀ j, w.frozen? ⟨N, j, none⟩ = false
theorem Ld.below {N g : Nat} {b : Nat → Int} {w w' : World} (h : Ld N g b w) (hb : Below w.heap.size w w') : Ld N g b w' :=
  have hN : N < w.heap.size := lt_of_cell h.r0
  ⟨fun j hj => (hb.cell (lt_of_cell (h.c j hj))).trans (h.c j hj), (hb.cell (lt_of_cell h.r0)).trans h.r0, (hb.cell (lt_of_cell h.r1)).trans h.r1, fun j => (hb.frozen (p := ⟨N, j, none⟩) hN).trans (h.z j)⟩
theorem Ld.drew {N g : Nat} {b : Nat → Int} {w : World} (h : Ld N g b w) : Ld N g b w.drew :=
  ⟨fun j hj => (World.cell?_drew _ _).trans (h.c j hj), (World.cell?_drew _ _).trans h.r0, (World.cell?_drew _ _).trans h.r1, fun j => (World.frozen?_drew _ _).trans (h.z j)⟩

set_option maxHeartbeats 1600000 in
set_option maxRecDepth 100000 in
theorem load_any (g : Nat) (b : Nat → Int) (hb : ∀ j, j < 16 → 0 ≤ b j ∧ b j ≤ 255) (w : World) (hc : ∀ j, j < 16 → w.cell? ⟨g, j, none⟩ = some (.int .u8 (b j))) :
    Calls Yba.prog 10 #[.pointer (some ⟨g, 0, none⟩)] w fun e w' => e = .returned (.agg #[.int .u64 (word b), .int .u64 (word fun j => b (j + 8))]) ∧ Below w.heap.size w w' := by
  have hg : g < w.heap.size := lt_of_cell (hc 0 (by omega))
  have hB : Below w.heap.size w (w.alloc (.cells #[.int .u64 0, .int .u64 0] 25)) := (Below.refl _ _).alloc (Nat.le_refl _) _
  have hN : w.heap.size < (w.alloc (.cells #[.int .u64 0, .int .u64 0] 25)).heap.size := by simp
  have c0 : (w.alloc (.cells #[.int .u64 0, .int .u64 0] 25)).cell? ⟨w.heap.size, 0, none⟩ = some (.int .u64 0) := by simp
  have c1 : (w.alloc (.cells #[.int .u64 0, .int .u64 0] 25)).cell? ⟨w.heap.size, 1, none⟩ = some (.int .u64 0) := by simp
  have z0 : ∀ j, (w.alloc (.cells #[.int .u64 0, .int .u64 0] 25)).frozen? ⟨w.heap.size, j, none⟩ = false := fun j => by simp
  have hc0 : ∀ j, j < 16 → (w.alloc (.cells #[.int .u64 0, .int .u64 0] 25)).cell? ⟨g, j, none⟩ = some (.int .u8 (b j)) := fun j hj => (hB.cell (p := ⟨g, j, none⟩) hg).trans (hc j hj)
  go_enter Yba.func10, Yba.ntmps10
  go_wp2_with fail
  have hL : Ld w.heap.size g b (w.alloc (.cells #[.int .u64 0, .int .u64 0] 25)).drew := Ld.drew ⟨hc0, c0, c1, z0⟩
  clear hc0 c0 c1 z0
  generalize w.alloc (.cells #[.int .u64 0, .int .u64 0] 25) = w0 at *
  go_region_held3 (fun w' => True) (trivial)
    (first
      | (go_at_call_of 15 (Value.slice (some ⟨g, 0, none⟩) 8 16); refine (get64_any g 0 8 16 b (fun j hj => hb j (by omega)) _ (by omega) (fun j hj => by rw [Nat.zero_add]; exact hL.c j (by omega))).mono ?_; rintro e w1 ⟨rfl, hb1⟩; have hL1 := hL.below hb1)
      | (go_at_call_of 15 (Value.slice (some ⟨g, 8, none⟩) 8 8); refine (get64_any g 8 8 8 (fun j => b (j + 8)) (fun j hj => hb (j + 8) (by omega)) _ (by omega) (fun j hj => by rw [Nat.add_comm 8 j]; exact hL1.c (j + 8) (by omega))).mono ?_; rintro e w2 ⟨rfl, hb2⟩; have hL2 := hL1.below hb2; have r0 := hL2.r0; have r1 := hL2.r1; have z0 := hL2.z 0; have z1 := hL2.z 1))
  go_wp2
  have k0 := World.cell?_setCell_same w2 ⟨w.heap.size, 0, none⟩ (.int .u64 (word b)) r0
  have k1 := (World.cell?_setCell_other w2 ⟨w.heap.size, 0, none⟩ ⟨w.heap.size, 1, none⟩ (.int .u64 (word b)) (by simp)).trans r1
  refine bodyPost_ret (results_cell Yba.results10 _ _ w.heap.size 0 [.int .u64 (word b), .int .u64 (word fun j => b (j + 8))] _ rfl ?_ Yba.underlying25 rfl size25) rfl ⟨rfl, ?_⟩
  · intro j v hv
    match j, hv with
    | 0, hv => simp at hv; subst hv; exact (World.cell?_setCell_other _ _ _ _ (by simp)).trans k0
    | 1, hv => simp at hv; subst hv; exact World.cell?_setCell_same _ _ _ k1
  · exact ((((hB.drew).trans (hb1.mono hB.size)).trans (hb2.mono (Nat.le_trans hB.size hb1.size))).setCell (by simp) _).setCell (by simp) _
end Go.Proofs.Ybulkki
