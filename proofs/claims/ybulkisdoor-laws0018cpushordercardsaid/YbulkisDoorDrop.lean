import Derived.Test.YbulkisDoorAtoms
namespace Go.Proofs.YbulkisDoor
open Go.RowKit Go.MuLone

/-! ### sync.Cond's Broadcast, nobody waiting -/
theorem run_check (a : Addr) (w : World) (hc : w.cell? a = some (.int .u64 0)) (hz : w.frozen? a = false) :
    (callFunc 50 #[.pointer (some a)]).run Ybad.prog w = .ok (.value (.tuple #[])) (w.setCell a (.pointer (some a))) := by
  rw [run_callFunc_extern Ybad.func50 (by kernel_rfl) (by kernel_rfl) (by kernel_rfl) (e := Extern.SyncCond.check) (by kernel_rfl)]
  have e : Sem.run Ybad.prog (Extern.SyncCond.check #[.pointer (some a)]) w = .ok (.tuple #[]) (w.setCell a (.pointer (some a))) := by
    conv => lhs; arg 2; whnf
    simp [Sem.bind, hc, hz, Extern.SyncCond.isSelf, mark, Sem.run, run_store Ybad.prog w a (.pointer (some a)) .atomic rfl, Extern.SyncCond.none_]
  rw [e]; rfl

theorem run_notifyAll (b o : Nat) (w : World) (h0 : w.cell? ⟨b, o, none⟩ = some (.int .u32 0)) (h1 : w.cell? ⟨b, o + 1, none⟩ = some (.int .u32 0)) :
    (callFunc 51 #[.pointer (some ⟨b, o, none⟩)]).run Ybad.prog w = .ok (.value (.tuple #[])) w := by
  rw [run_callFunc_extern Ybad.func51 (by kernel_rfl) (by kernel_rfl) (by kernel_rfl) (e := Extern.SyncCond.notifyAll) (by kernel_rfl)]
  unfold Extern.SyncCond.notifyAll
  have hw : IntKind.u32.wrap 0 = 0 := by decide
  simp [hw, Extern.SyncCond.list, Extern.SyncCond.counter, h0, h1, mark, Sem.run, Result.andThen, Extern.SyncCond.none_, Addr.add]

/-- Of what was there, block S alone may have been written; its marks stand. -/
structure Only (S : Nat) (w w' : World) : Prop where
  os : w'.os = w.os
  tape : w'.tape = w.tape
  output : w'.output = w.output
  size : w.heap.size ≤ w'.heap.size
  block : ∀ k, k < w.heap.size → k ≠ S → w'.heap[k]? = w.heap[k]?
  froz : ∀ j, w'.frozen? ⟨S, j, none⟩ = w.frozen? ⟨S, j, none⟩

theorem Only.refl (S : Nat) (w : World) : Only S w w := ⟨rfl, rfl, rfl, Nat.le_refl _, fun _ _ _ => rfl, fun _ => rfl⟩
theorem Only.trans {S : Nat} {a b c : World} (h : Only S a b) (k : Only S b c) : Only S a c :=
  ⟨k.os.trans h.os, k.tape.trans h.tape, k.output.trans h.output, Nat.le_trans h.size k.size, fun i hi hs => (k.block i (Nat.lt_of_lt_of_le hi h.size) hs).trans (h.block i hi hs), fun j => (k.froz j).trans (h.froz j)⟩
theorem Only.setCell {S : Nat} {a w : World} (h : Only S a w) (j : Nat) (u : Value) : Only S a (w.setCell ⟨S, j, none⟩ u) :=
  h.trans ⟨rfl, rfl, rfl, by simp [World.setCell], fun k _ hs => Below.heap_setCell _ _ _ _ hs, fun j => by simp⟩
theorem Only.drew {S : Nat} {a w : World} (h : Only S a w) : Only S a w.drew := h.trans ⟨rfl, rfl, rfl, Nat.le_refl _, fun _ _ _ => rfl, fun j => by simp⟩
theorem Only.below {S B : Nat} {w w' : World} (h : Only S w w') (hS : S < w.heap.size) (hB : B ≤ S) : Below B w w' :=
  ⟨h.os, h.tape, h.output, h.size, fun k hk => h.block k (by omega) (by omega)⟩
theorem Only.cell {S : Nat} {w w' : World} (h : Only S w w') {a : Addr} (ha : a.block < w.heap.size) (hs : a.block ≠ S) : w'.cell? a = w.cell? a := World.cell?_of_block (h.block _ ha hs)

theorem lt_of_cell {w : World} {a : Addr} {v : Value} (h : w.cell? a = some v) : a.block < w.heap.size := by
  rcases Nat.lt_or_ge a.block w.heap.size with hlt | hge
  · exact hlt
  · simp [World.cell?, Array.getElem?_eq_none hge] at h

/-- '(*sync.Cond).Broadcast', nobody waiting, the Cond at ⟨S, o⟩. -/
theorem broadcast_any (S : Nat) (w : World) (h1 : w.cell? ⟨S, 277, none⟩ = some (.int .u32 0)) (h2 : w.cell? ⟨S, 278, none⟩ = some (.int .u32 0)) (h6 : w.cell? ⟨S, 282, none⟩ = some (.int .u64 0)) (hz : w.frozen? ⟨S, 282, none⟩ = false) :
    Calls Ybad.prog 38 #[.pointer (some ⟨S, 276, none⟩)] w fun e w' => e = .returned (.tuple #[]) ∧ w' = w.setCell ⟨S, 282, none⟩ (.pointer (some ⟨S, 282, none⟩)) := by
  have hk := run_check _ _ h6 hz
  have hn := run_notifyAll S 277 (w.setCell ⟨S, 282, none⟩ (.pointer (some ⟨S, 282, none⟩))) ((World.cell?_setCell_other _ _ _ _ (by simp)).trans h1) ((World.cell?_setCell_other _ _ _ _ (by simp)).trans h2)
  go_enter Ybad.func38, Ybad.ntmps38
  go_wp2
  go_end0
  exact ⟨rfl, rfl⟩

/-- 'ended' of a task that belongs to no group. -/
theorem ended_none (a : Nat) (v : Value) (w : World) (h : w.cell? ⟨a, 2, none⟩ = some (.pointer none)) :
    Calls Ybad.prog 25 #[.pointer (some ⟨a, 0, none⟩), v] w fun e w' => e = .returned (.tuple #[]) ∧ w = w' := by
  go_enter Ybad.func25, Ybad.ntmps25
  go_wp2
  go_end0
  exact ⟨rfl, rfl⟩

/-- 'finished(k)' with k + x pending, x not 0. -/
theorem finished_some (S : Nat) (k x : Int) (w : World) (hk : 0 ≤ k) (hk' : k ≤ 1000) (hx : 0 < x) (hx' : x ≤ 1000) (hp : w.cell? ⟨S, 283, none⟩ = some (.int .i64 (k + x))) (hz : w.frozen? ⟨S, 283, none⟩ = false) :
    Calls Ybad.prog 26 #[.pointer (some ⟨S, 0, none⟩), .int .i64 k] w fun e w' => e = .returned (.tuple #[]) ∧ w' = w.setCell ⟨S, 283, none⟩ (.int .i64 x) := by
  have hw : IntKind.i64.wrap (k + x + -k) = x := by rw [IntWalk.i64_in _ (by omega)]; omega
  have hne : (x != 0) = true := by rw [bne_iff_ne]; omega
  go_enter Ybad.func26, Ybad.ntmps26
  go_wp2_with (go_at_call 27; refine (i64Add _ (k + x) (-k) x _ hp hz hw).mono ?_; rintro e w' ⟨rfl, rfl⟩)
  refine bodyPost_ret (results_none rfl _ _ _) rfl ?_
  exact ⟨rfl, rfl⟩

set_option maxHeartbeats 800000 in
/-- 'finished(k)' with k pending: the waiters are woken; nobody waits. -/
theorem finished_all (S : Nat) (k : Int) (w : World) (hk : 0 ≤ k) (hk' : k ≤ 1000) (hp : w.cell? ⟨S, 283, none⟩ = some (.int .i64 k)) (zp : w.frozen? ⟨S, 283, none⟩ = false)
    (h1 : w.cell? ⟨S, 1, none⟩ = some (.int .i32 0)) (z1 : w.frozen? ⟨S, 1, none⟩ = false)
    (h277 : w.cell? ⟨S, 277, none⟩ = some (.int .u32 0)) (h278 : w.cell? ⟨S, 278, none⟩ = some (.int .u32 0)) (h282 : w.cell? ⟨S, 282, none⟩ = some (.int .u64 0)) (z282 : w.frozen? ⟨S, 282, none⟩ = false)
    (h270 : w.cell? ⟨S, 270, none⟩ = some (.int .u32 0)) :
    Calls Ybad.prog 26 #[.pointer (some ⟨S, 0, none⟩), .int .i64 k] w fun e w' => e = .returned (.tuple #[]) ∧
      w' = (((w.setCell ⟨S, 283, none⟩ (.int .i64 0)).setCell ⟨S, 1, none⟩ (.int .i32 1)).setCell ⟨S, 282, none⟩ (.pointer (some ⟨S, 282, none⟩))).setCell ⟨S, 1, none⟩ (.int .i32 0) := by
  have hw : IntKind.i64.wrap (k + -k) = 0 := by rw [IntWalk.i64_in _ (by omega)]; omega
  go_enter Ybad.func26, Ybad.ntmps26
  go_wp2_with (first
    | (go_at_call 27; refine (i64Add _ k (-k) 0 _ hp zp hw).mono ?_; rintro e w' ⟨rfl, rfl⟩)
    | (go_at_call 11; refine (lock_free Ybad.muLib ⟨S, 1, none⟩ _ ?_ ?_).mono ?_; (exact (World.cell?_setCell_other _ _ _ _ (by simp)).trans h1); (simp [z1]); rintro e w' ⟨rfl, rfl⟩)
    | (go_at_call 38; refine (broadcast_any S _ ?_ ?_ ?_ ?_).mono ?_; (exact (World.cell?_setCell_other _ _ _ _ (by simp)).trans ((World.cell?_setCell_other _ _ _ _ (by simp)).trans h277)); (exact (World.cell?_setCell_other _ _ _ _ (by simp)).trans ((World.cell?_setCell_other _ _ _ _ (by simp)).trans h278)); (exact (World.cell?_setCell_other _ _ _ _ (by simp)).trans ((World.cell?_setCell_other _ _ _ _ (by simp)).trans h282)); (simp [z282]); rintro e w' ⟨rfl, rfl⟩)
    | (go_at_call 12; refine (boolLoad _ 0 _ ?_).mono ?_; (exact (World.cell?_setCell_other _ _ _ _ (by simp)).trans ((World.cell?_setCell_other _ _ _ _ (by simp)).trans ((World.cell?_setCell_other _ _ _ _ (by simp)).trans h270))); rintro e w' ⟨rfl, rfl⟩)
    | (go_at_call 13; refine (unlock_held Ybad.muLib ⟨S, 1, none⟩ _ ?_ ?_).mono ?_; (exact (World.cell?_setCell_other _ _ _ _ (by simp)).trans (World.cell?_setCell_same _ _ _ ((World.cell?_setCell_other _ _ _ _ (by simp)).trans h1))); (simp [z1]); rintro e w' ⟨rfl, rfl⟩))
  go_end0
  exact ⟨rfl, rfl⟩

/-- 'finished(k)' with k + x pending: x is left. -/
theorem finished_any (S : Nat) (k x : Int) (w : World) (hk : 0 ≤ k) (hk' : k ≤ 1000) (hx : 0 ≤ x) (hx' : x ≤ 1000) (hp : w.cell? ⟨S, 283, none⟩ = some (.int .i64 (k + x))) (zp : w.frozen? ⟨S, 283, none⟩ = false)
    (h1 : w.cell? ⟨S, 1, none⟩ = some (.int .i32 0)) (z1 : w.frozen? ⟨S, 1, none⟩ = false)
    (h277 : w.cell? ⟨S, 277, none⟩ = some (.int .u32 0)) (h278 : w.cell? ⟨S, 278, none⟩ = some (.int .u32 0)) (h282 : w.cell? ⟨S, 282, none⟩ = some (.int .u64 0)) (z282 : w.frozen? ⟨S, 282, none⟩ = false)
    (h270 : w.cell? ⟨S, 270, none⟩ = some (.int .u32 0)) :
    Calls Ybad.prog 26 #[.pointer (some ⟨S, 0, none⟩), .int .i64 k] w fun e w' => e = .returned (.tuple #[]) ∧ Only S w w' ∧ w'.cell? ⟨S, 283, none⟩ = some (.int .i64 x) ∧ ∀ j, j ≠ 1 → j ≠ 282 → j ≠ 283 → w'.cell? ⟨S, j, none⟩ = w.cell? ⟨S, j, none⟩ := by
  have hne : ∀ i j : Nat, i ≠ j → (⟨S, j, none⟩ : Addr) ≠ ⟨S, i, none⟩ := fun i j h e => h (congrArg Addr.off e).symm
  by_cases h0 : x = 0
  · subst h0
    rw [Int.add_zero] at hp
    refine (finished_all S k w hk hk' hp zp h1 z1 h277 h278 h282 z282 h270).mono ?_
    rintro e w' ⟨rfl, rfl⟩
    refine ⟨rfl, (((((Only.refl S w).setCell _ _).setCell _ _).setCell _ _).setCell _ _), ?_, fun j j1 j2 j3 => ?_⟩
    · rw [World.cell?_setCell_other _ _ _ _ (by simp), World.cell?_setCell_other _ _ _ _ (by simp), World.cell?_setCell_other _ _ _ _ (by simp)]
      exact World.cell?_setCell_same _ _ _ hp
    · rw [World.cell?_setCell_other _ _ _ _ (hne _ _ j1), World.cell?_setCell_other _ _ _ _ (hne _ _ j2), World.cell?_setCell_other _ _ _ _ (hne _ _ j1), World.cell?_setCell_other _ _ _ _ (hne _ _ j3)]
  · refine (finished_some S k x w hk hk' (by omega) hx' hp zp).mono ?_
    rintro e w' ⟨rfl, rfl⟩
    exact ⟨rfl, (Only.refl S w).setCell _ _, World.cell?_setCell_same _ _ _ hp, fun j j1 j2 j3 => World.cell?_setCell_other _ _ _ _ (hne _ _ j3)⟩
end Go.Proofs.YbulkisDoor
