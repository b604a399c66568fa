import Derived.Test.YbulkisDoorPush
namespace Go.Proofs.YbulkisDoor
open Go.RowKit Go.MuLone

/-- What the last three statements of 'push' read and write, and the facts between their stores. -/
structure Tail (S b f i n : Nat) (t : Value) (u : World) : Prop where
  lt : i < 256
  c3 : u.cell? ⟨S, 3, none⟩ = some (.pointer (some ⟨b, f, none⟩))
  c4 : u.cell? ⟨S, 4, none⟩ = some (.int .i64 (i : Int))
  ci : ∃ v, u.cell? ⟨b, f + i, none⟩ = some v
  zi : u.frozen? ⟨b, f + i, none⟩ = false
  z4 : u.frozen? ⟨S, 4, none⟩ = false
  z9 : u.frozen? ⟨S, 9, none⟩ = false
  k4 : (u.setCell ⟨b, f + i, none⟩ t).cell? ⟨S, 4, none⟩ = some (.int .i64 (i : Int))
  k9 : ((u.setCell ⟨b, f + i, none⟩ t).setCell ⟨S, 4, none⟩ (.int .i64 ((i : Int) + 1))).cell? ⟨S, 9, none⟩ = some (.int .i64 (n : Int))

theorem Ready.tail {S M : Nat} {B : Nat → Nat} {n : Nat} {P : Nat → Nat} {u : World} (h : Ready S M B n P u) (t : Value) : Tail S (B (n / 256)) (so (n / 256)) (n % 256) n t u :=
  ⟨by omega, h.c3, h.c4, h.room _ (by omega), h.froz _, h.frozS _, h.frozS _, (World.cell?_setCell_other _ _ _ _ (h.segNe _ _ _ (Nat.le_refl _) (by omega))).trans h.c4,
    (World.cell?_setCell_other _ _ _ _ (by simp)).trans ((World.cell?_setCell_other _ _ _ _ (h.segNe _ _ _ (Nat.le_refl _) (by omega))).trans h.c9)⟩

theorem fill_eq (S b f i m : Nat) (t : Value) (u : World) : fill S b f i m t u = ((u.setCell ⟨b, f + i, none⟩ t).setCell ⟨S, 4, none⟩ (.int .i64 ((i : Int) + 1))).setCell ⟨S, 9, none⟩ (.int .i64 ((m : Int) + 1)) := by
  unfold fill
  rw [show ((i + 1 : Nat) : Int) = (i : Int) + 1 by omega, show ((m + 1 : Nat) : Int) = (m : Int) + 1 by omega]

set_option maxRecDepth 100000 in
set_option maxHeartbeats 1600000 in
theorem push_B (S b f i n : Nat) (t : Addr) (w : World) (hn : n ≤ 10000) (hT : Tail S b f i n (.pointer (some t)) w) :
    Calls Ybad.prog 15 #[.pointer (some ⟨S, 3, none⟩), .pointer (some t)] w fun e w' => e = .returned (.tuple #[]) ∧ w' = (fill S b f i n (.pointer (some t)) w).drew := by
  rw [fill_eq]
  obtain ⟨lt, c3, c4, ⟨v, ci⟩, zi, z4, z9, k4, k9⟩ := hT
  have i0 : (0 : Int) ≤ (i : Int) := by omega
  have i1 : (i : Int) < 256 := by omega
  have hw : IntKind.i64.wrap ((n : Int) + 1) = (n : Int) + 1 := IntWalk.i64_in _ (by omega)
  go_enter Ybad.func15, Ybad.ntmps15
  go_upto_region 6 with fail
  go_region
  all_goals go_wp2_with fail
  refine (i64Add ⟨S, 9, none⟩ n 1 ((n : Int) + 1) _ ((World.cell?_drew _ _).trans k9) (by simp [z9]) hw).mono ?_
  rintro e w' ⟨rfl, rfl⟩
  go_wp2
  go_end0
  exact ⟨rfl, rfl⟩

set_option maxRecDepth 100000 in
set_option maxHeartbeats 1600000 in
theorem push_A (S b f i n : Nat) (t : Addr) (w : World) (hn : n ≤ 10000) (h3 : w.cell? ⟨S, 3, none⟩ = some (.pointer none)) (h4 : w.cell? ⟨S, 4, none⟩ = some (.int .i64 (i : Int))) (z3 : w.frozen? ⟨S, 3, none⟩ = false) (u : World) (hu : Hid (w.setCell ⟨S, 3, none⟩ (.pointer (some ⟨S, 10, none⟩)) = u)) (hT : Tail S b f i n (.pointer (some t)) u) :
    Calls Ybad.prog 15 #[.pointer (some ⟨S, 3, none⟩), .pointer (some t)] w fun e w' => e = .returned (.tuple #[]) ∧ w' = (fill S b f i n (.pointer (some t)) u).drew := by
  rw [fill_eq]
  obtain ⟨lt, c3, c4, ⟨v, ci⟩, zi, z4, z9, k4, k9⟩ := hT
  have i0 : (0 : Int) ≤ (i : Int) := by omega
  have i1 : (i : Int) < 256 := by omega
  have hw : IntKind.i64.wrap ((n : Int) + 1) = (n : Int) + 1 := IntWalk.i64_in _ (by omega)
  go_enter Ybad.func15, Ybad.ntmps15
  go_upto_region 6 with fail
  rw [hu.out]
  go_region
  all_goals go_wp2_with fail
  refine (i64Add ⟨S, 9, none⟩ n 1 ((n : Int) + 1) _ ((World.cell?_drew _ _).trans k9) (by simp [z9]) hw).mono ?_
  rintro e w' ⟨rfl, rfl⟩
  go_wp2
  go_end0
  exact ⟨rfl, rfl⟩

set_option maxRecDepth 100000 in
set_option maxHeartbeats 1600000 in
theorem push_C (S b f b1 f1 i n : Nat) (t : Addr) (w : World) (v1 : Value) (hn : n ≤ 10000) (hS : S < w.heap.size) (hb : b1 < w.heap.size) (h3 : w.cell? ⟨S, 3, none⟩ = some (.pointer (some ⟨b1, f1, none⟩))) (h4 : w.cell? ⟨S, 4, none⟩ = some (.int .i64 256)) (y3 : w.frozen? ⟨S, 3, none⟩ = false) (y4 : w.frozen? ⟨S, 4, none⟩ = false)
    (cn : w.cell? ⟨b1, f1 + 256, none⟩ = some v1) (zn : w.frozen? ⟨b1, f1 + 256, none⟩ = false)
    (u : World) (hu : Hid ((((w.setCell ⟨b1, f1 + 256, none⟩ (.pointer (some ⟨w.heap.size, 0, none⟩))).setCell ⟨S, 3, none⟩ (.pointer (some ⟨w.heap.size, 0, none⟩))).setCell ⟨S, 4, none⟩ (.int .i64 0)).alloc (.cells Ybad.zeroCells40 40) = u)) (hT : Tail S b f i n (.pointer (some t)) u) :
    Calls Ybad.prog 15 #[.pointer (some ⟨S, 3, none⟩), .pointer (some t)] w fun e w' => e = .returned (.tuple #[]) ∧
      w' = (fill S b f i n (.pointer (some t)) u).drew := by
  rw [fill_eq]
  obtain ⟨lt, c3, c4, ⟨v, ci⟩, zi, z4, z9, k4, k9⟩ := hT
  have i0 : (0 : Int) ≤ (i : Int) := by omega
  have i1 : (i : Int) < 256 := by omega
  have hw : IntKind.i64.wrap ((n : Int) + 1) = (n : Int) + 1 := IntWalk.i64_in _ (by omega)
  go_enter Ybad.func15, Ybad.ntmps15
  go_upto_region 6 with fail
  rw [hu.out]
  go_region
  all_goals go_wp2_with fail
  refine (i64Add ⟨S, 9, none⟩ n 1 ((n : Int) + 1) _ ((World.cell?_drew _ _).trans k9) (by simp [z9]) hw).mono ?_
  rintro e w' ⟨rfl, rfl⟩
  go_wp2
  go_end0
  exact ⟨rfl, rfl⟩
end Go.Proofs.YbulkisDoor
