import Derived.Test.YbulkisDoorTasks
namespace Go.Proofs.YbulkisDoor
open Go.RowKit Go.MuLone

/-- What the scheduler's block holds that 'drop' reads or writes: the lock free, nobody waiting, 'pending' and 'dropped' as said. -/
structure Calm (S : Nat) (p d : Int) (w : World) : Prop where
  c1 : w.cell? ⟨S, 1, none⟩ = some (.int .i32 0)
  c270 : w.cell? ⟨S, 270, none⟩ = some (.int .u32 0)
  c277 : w.cell? ⟨S, 277, none⟩ = some (.int .u32 0)
  c278 : w.cell? ⟨S, 278, none⟩ = some (.int .u32 0)
  c282 : w.cell? ⟨S, 282, none⟩ = some (.int .u64 0)
  c283 : w.cell? ⟨S, 283, none⟩ = some (.int .i64 p)
  c301 : w.cell? ⟨S, 301, none⟩ = some (.int .u64 d)
  z : ∀ j, w.frozen? ⟨S, j, none⟩ = false

theorem offNe {S : Nat} (i j : Nat) (h : i ≠ j) : (⟨S, j, none⟩ : Addr) ≠ ⟨S, i, none⟩ := fun e => h (congrArg Addr.off e).symm

theorem drop_none (S g c : Nat) (w : World) :
    Calls Ybad.prog 14 #[.pointer (some ⟨S, 0, none⟩), .slice (some ⟨g, 0, none⟩) 0 c] w fun e w' => e = .returned (.tuple #[]) ∧ w = w' := by
  go_enter Ybad.func14, Ybad.ntmps14
  go_wp2
  refine bodyPost_ret (results_none rfl _ _ _) rfl ?_
  exact ⟨rfl, rfl⟩

set_option maxRecDepth 100000 in
set_option maxHeartbeats 1600000 in
theorem drop_some (S B g k : Nat) (x : Int) (P : Nat → Nat) (ev : Value) (w : World) (hS0 : 0 < S) (hSg : S ≠ g) (hSB : S < B) (hk0 : 0 < k) (hk : k ≤ 1000) (hx : 0 ≤ x) (hx' : x ≤ 1000)
    (hT : Tasks B g k P w) (hE : w.cell? ⟨0, 0, none⟩ = some ev) (hC : Calm S (k + x) 0 w) :
    Calls Ybad.prog 14 #[.pointer (some ⟨S, 0, none⟩), .slice (some ⟨g, 0, none⟩) k k] w fun e w' => e = .returned (.tuple #[]) ∧ Only S w w' ∧
      w'.cell? ⟨S, 283, none⟩ = some (.int .i64 x) ∧ w'.cell? ⟨S, 301, none⟩ = some (.int .u64 k) ∧ ∀ j, j ≠ 1 → j ≠ 282 → j ≠ 283 → j ≠ 301 → w'.cell? ⟨S, j, none⟩ = w.cell? ⟨S, j, none⟩ := by
  have hne : ((k : Int) == 0) = false := beq_eq_false_iff_ne.2 (by omega)
  have hw : IntKind.u64.wrap (0 + (k : Int)) = k := by rw [IntKind.wrap_u64]; omega
  have hO : Only S w (w.setCell ⟨S, 301, none⟩ (.int .u64 k)) := (Only.refl S w).setCell _ _
  have hC1 : ∀ j, j ≠ 301 → (w.setCell ⟨S, 301, none⟩ (.int .u64 k)).cell? ⟨S, j, none⟩ = w.cell? ⟨S, j, none⟩ := fun j hj => World.cell?_setCell_other _ _ _ _ (offNe _ _ hj)
  have h301 : (w.setCell ⟨S, 301, none⟩ (.int .u64 k)).cell? ⟨S, 301, none⟩ = some (.int .u64 k) := World.cell?_setCell_same _ _ _ hC.c301
  have hE1 : (w.setCell ⟨S, 301, none⟩ (.int .u64 k)).cell? ⟨0, 0, none⟩ = some ev := (hO.cell (lt_of_cell hE) (Nat.ne_of_lt hS0)).trans hE
  have hT1 : Tasks B g k P (w.setCell ⟨S, 301, none⟩ (.int .u64 k)) := fun q hq => by
    obtain ⟨h1, h2, h3⟩ := hT q hq
    exact ⟨(hO.cell (lt_of_cell h1) (Ne.symm hSg)).trans h1, (hO.cell (lt_of_cell h2) (by simp; omega)).trans h2, h3⟩
  go_enter Ybad.func14, Ybad.ntmps14
  go_wp2_with (go_at_call 24; refine (u64Add ⟨S, 301, none⟩ 0 k k _ hC.c301 (hC.z _) hw).mono ?_; rintro e w' ⟨rfl, rfl⟩)
  have hz1 : ∀ j, (w.setCell ⟨S, 301, none⟩ (.int .u64 k)).frozen? ⟨S, j, none⟩ = false := fun j => (hO.froz j).trans (hC.z j)
  generalize w.setCell ⟨S, 301, none⟩ (.int .u64 k) = w1 at *
  go_loopw [19] (fun i wr => wr = w1 ∧ ∃ j : Nat, j ≤ k ∧ i = .int .i64 j) (fun i _ => k - (intOf i).toNat)
  case atStart => exact ⟨rfl, 0, Nat.zero_le _, rfl⟩
  case round =>
    obtain ⟨rfl, j, hj, rfl⟩ := hrel
    by_cases hlt : j < k
    · obtain ⟨t1, t2, t3⟩ := hT1 j hlt
      clear hT1 hT hC1 hz1
      go_wp2_with (go_at_call 25; refine (ended_none (P j) _ _ t2).mono ?_; rintro e w' ⟨rfl, rfl⟩)
      go_roundw
      case rel => exact ⟨trivial, j + 1, by omega, by go_num⟩
      case measure => simp [intOf]; omega
    · go_wp2_with fail
      refine (finished_any S k x _ (by omega) (by omega) hx hx' ((hC1 283 (by omega)).trans hC.c283) (hz1 _) ((hC1 1 (by omega)).trans hC.c1) (hz1 _) ((hC1 277 (by omega)).trans hC.c277) ((hC1 278 (by omega)).trans hC.c278) ((hC1 282 (by omega)).trans hC.c282) (hz1 _) ((hC1 270 (by omega)).trans hC.c270)).mono ?_
      rintro e w' ⟨rfl, q1, q2, q3⟩
      go_wp2
      go_end0
      exact ⟨rfl, hO.trans q1, q2, (q3 301 (by omega) (by omega) (by omega)).trans h301, fun i i1 i2 i3 i4 => (q3 i i1 i2 i3).trans (hC1 i i4)⟩

/-- 'pushShared' on a scheduler that has been abandoned: nothing is queued. -/
theorem push_abandoned (S B g k : Nat) (x : Int) (P : Nat → Nat) (ev : Value) (w : World) (hS0 : 0 < S) (hSg : S ≠ g) (hSB : S < B) (hk : k ≤ 1000) (hx : 0 ≤ x) (hx' : x ≤ 1000)
    (hT : Tasks B g k P w) (hE : w.cell? ⟨0, 0, none⟩ = some ev) (hC : Calm S (k + x) 0 w) (h275 : w.cell? ⟨S, 275, none⟩ = some (.int .u32 1)) :
    Calls Ybad.prog 6 #[.pointer (some ⟨S, 0, none⟩), .slice (some ⟨g, 0, none⟩) k k] w fun e w' => e = .returned (.tuple #[]) ∧ Only S w w' ∧
      w'.cell? ⟨S, 283, none⟩ = some (.int .i64 x) ∧ w'.cell? ⟨S, 301, none⟩ = some (.int .u64 k) ∧ ∀ j, j ≠ 1 → j ≠ 282 → j ≠ 283 → j ≠ 301 → w'.cell? ⟨S, j, none⟩ = w.cell? ⟨S, j, none⟩ := by
  have hO : Only S w ((w.setCell ⟨S, 1, none⟩ (.int .i32 1)).setCell ⟨S, 1, none⟩ (.int .i32 0)) := ((Only.refl S w).setCell _ _).setCell _ _
  have l1 : (w.setCell ⟨S, 1, none⟩ (.int .i32 1)).cell? ⟨S, 1, none⟩ = some (.int .i32 1) := World.cell?_setCell_same _ _ _ hC.c1
  have l2 : ((w.setCell ⟨S, 1, none⟩ (.int .i32 1)).setCell ⟨S, 1, none⟩ (.int .i32 0)).cell? ⟨S, 1, none⟩ = some (.int .i32 0) := World.cell?_setCell_same _ _ _ l1
  have hk1 : ∀ j, j ≠ 1 → ((w.setCell ⟨S, 1, none⟩ (.int .i32 1)).setCell ⟨S, 1, none⟩ (.int .i32 0)).cell? ⟨S, j, none⟩ = w.cell? ⟨S, j, none⟩ := fun j hj =>
    (World.cell?_setCell_other _ _ _ _ (offNe _ _ hj)).trans (World.cell?_setCell_other _ _ _ _ (offNe _ _ hj))
  have l275 : (w.setCell ⟨S, 1, none⟩ (.int .i32 1)).cell? ⟨S, 275, none⟩ = some (.int .u32 1) := (World.cell?_setCell_other _ _ _ _ (by simp)).trans h275
  have hC1 : Calm S (k + x) 0 ((w.setCell ⟨S, 1, none⟩ (.int .i32 1)).setCell ⟨S, 1, none⟩ (.int .i32 0)) :=
    ⟨l2, (hk1 _ (by omega)).trans hC.c270, (hk1 _ (by omega)).trans hC.c277, (hk1 _ (by omega)).trans hC.c278, (hk1 _ (by omega)).trans hC.c282, (hk1 _ (by omega)).trans hC.c283, (hk1 _ (by omega)).trans hC.c301, fun j => (hO.froz j).trans (hC.z j)⟩
  have hE1 : ((w.setCell ⟨S, 1, none⟩ (.int .i32 1)).setCell ⟨S, 1, none⟩ (.int .i32 0)).cell? ⟨0, 0, none⟩ = some ev := (hO.cell (lt_of_cell hE) (Nat.ne_of_lt hS0)).trans hE
  have hT1 : Tasks B g k P ((w.setCell ⟨S, 1, none⟩ (.int .i32 1)).setCell ⟨S, 1, none⟩ (.int .i32 0)) := fun q hq => by
    obtain ⟨h1, h2, h3⟩ := hT q hq
    exact ⟨(hO.cell (lt_of_cell h1) (Ne.symm hSg)).trans h1, (hO.cell (lt_of_cell h2) (by simp; omega)).trans h2, h3⟩
  go_enter Ybad.func6, Ybad.ntmps6
  go_wp2_with (first
    | (go_at_call 11; refine (lock_free Ybad.muLib ⟨S, 1, none⟩ _ hC.c1 (hC.z _)).mono ?_; rintro e w' ⟨rfl, rfl⟩)
    | (go_at_call 12; refine (boolLoad ⟨S, 275, none⟩ 1 _ l275).mono ?_; rintro e w' ⟨rfl, rfl⟩)
    | (go_at_call 13; refine (unlock_held Ybad.muLib ⟨S, 1, none⟩ _ l1 ?_).mono ?_; (simp [hC.z]); rintro e w' ⟨rfl, rfl⟩))
  by_cases hk0 : k = 0
  · subst hk0
    refine (drop_none S g 0 _).mono ?_
    rintro e w' ⟨rfl, rfl⟩
    go_wp2
    refine bodyPost_ret (results_none rfl _ _ _) rfl ?_
    exact ⟨rfl, hO, by simpa using hC1.c283, by simpa using hC1.c301, fun j j1 _ _ _ => hk1 j j1⟩
  · refine (drop_some S B g k x P ev _ hS0 hSg hSB (by omega) hk hx hx' hT1 hE1 hC1).mono ?_
    rintro e w' ⟨rfl, q1, q2, q3, q4⟩
    go_wp2
    refine bodyPost_ret (results_none rfl _ _ _) rfl ?_
    exact ⟨rfl, hO.trans q1, q2, q3, fun j j1 j2 j3 j4 => (q4 j j1 j2 j3 j4).trans (hk1 j j1)⟩
end Go.Proofs.YbulkisDoor
