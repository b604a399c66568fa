import Derived.Test.YbulkisRows
import Derived.Test.YbulkisLocks
import Derived.Conc.MuLone
import Derived.WalkKit
import Derived.RegionCalls
import Derived.ChangeAlike
import Derived.Deep.AppendLies
import Derived.Deep.RegionHeld3
namespace Go.Proofs.Ybulkis
open Go.RowKit Go.MuLone

theorem store_deferred (a : Addr) (x : Value) (u : FrameMode) (w : World) (hc : w.cell? a = some x) (hz : w.frozen? a = false) :
    CallsD Yba.prog 14 #[.pointer (some a), .bool true] u w fun e u' w' => u' = u ∧ (e = .returned (.tuple #[]) ∧ w' = w.drew.setCell a (.int .u32 1)) := by
  have hc' : w.drew.cell? a = some x := by go_simp
  have hz' : w.drew.frozen? a = false := by go_simp
  have hst := run_call_store (P := Yba.prog) Yba.func17 (by kernel_rfl) (by kernel_rfl) (by kernel_rfl) (by kernel_rfl) (k := .u32) (y := 1) hc' hz'
  go_enter_d Yba.func14, Yba.ntmps14
  go_wp2
  go_region_calls
  all_goals (go_end0; exact ⟨rfl, rfl⟩)

theorem Yba.info26 : (Yba.prog.info? 26).map (fun i => (i.zero, i.size, i.bytes)) = some (some .nilIface, 1, 16) := by kernel_rfl

/-- the recording stand-in, the log still nil -/
theorem cancel_first (x : Addr) (L : Nat) (w : World) (hL : L < w.heap.size) (hc : w.cell? ⟨L, 0, none⟩ = some (.slice none 0 0)) (hz : w.frozen? ⟨L, 0, none⟩ = false) :
    Calls Yba.prog 4 #[.iface 54 (.pointer (some x)), .pointer (some ⟨L, 0, none⟩)] w fun r w' => r = .returned (.tuple #[]) ∧ ∃ g cap, w.heap.size ≤ g ∧ w'.cell? ⟨L, 0, none⟩ = some (.slice (some ⟨g, 0, none⟩) 1 cap) ∧ w'.cell? ⟨g, 0, none⟩ = some (.iface 54 (.pointer (some x))) ∧
      (∀ B, B ≤ L → Below B w w') ∧ ∀ k, k < w.heap.size → k ≠ L → w'.heap[k]? = w.heap[k]? := by
  obtain ⟨i0, hi, hz0, hz1, hz2⟩ := info_parts Yba.info26
  go_enter Yba.func4, Yba.ntmps4
  go_wp2_with (at_builtin; refine wpList_append_lies _ rfl _ _ 23 rfl w.heap.size 26 i0 .nilIface 1 16 Yba.underlying23 hi hz0 hz1 hz2 rfl (by omega) _ 0 [] rfl (World.ownsRow_nil _ _ _ _) ⟨w.heap.size, 0, none⟩ 1 1 [.iface 54 (.pointer (some x))] rfl rfl ?c1 ?c2 (by omega) (by unfold maxLen; omega) (by omega) (by simp) (w.heap.size + 1) (by simp) ?_)
  case c1 =>
    intro j u hj
    match j, hj with
    | 0, hj => simp at hj; subst hj; simp [Addr.add]
  case c2 => intro u hu; simp at hu; subst hu; rfl
  intro g cap w1 hown hgrow hat hlt
  obtain rfl : g = w.heap.size + 1 := by
    rcases hat with h | h
    · cases h
    · exact h
  have hb : ∀ k, k < w.heap.size → w1.heap[k]? = w.heap[k]? := fun k hk => by
    rw [hgrow.block k (by simp; omega) (by simp [Value.ownBlock]), Below.heap_alloc _ _ _ hk]
  have hc1 : w1.cell? ⟨L, 0, none⟩ = some (.slice none 0 0) := (World.cell?_of_block (hb L hL)).trans hc
  have hz1 : w1.frozen? ⟨L, 0, none⟩ = false := (World.frozen?_of_block (hb L hL)).trans hz
  have hge : w1.cell? ⟨w.heap.size + 1, 0, none⟩ = some (.iface 54 (.pointer (some x))) := by simpa using hown.cellAt 0 (by omega)
  have hbel : ∀ B, B ≤ L → Below B w w1 := fun B hB => ((Below.refl B w).alloc (by omega) _).grown hgrow (by simp; omega) (fun k h => by simp [Value.ownBlock] at h)
  clear hown hgrow hat
  go_wp2
  go_end0
  refine ⟨rfl, w.heap.size + 1, cap, by omega, World.cell?_setCell_same _ _ _ hc1, ?_, fun B hB => (hbel B hB).setCell (by simpa using hB) _, fun k hk hkL => ?_⟩
  · rw [World.cell?_setCell_other _ _ _ _ (fun h => by have := congrArg Addr.block h; simp only at this; omega)]; exact hge
  · rw [Below.heap_setCell _ _ _ _ (by simpa using hkL)]; exact hb k hk

/-- 'fail''s closure: the group's error is set, the recording stand-in is called. -/
theorem fail_closure (x pe pg : Addr) (G L : Nat) (x8 : Value) (w : World) (hL : L < w.heap.size) (hG : G < w.heap.size) (hLG : L ≠ G) (hGe : pe.block ≠ G) (hGg : pg.block ≠ G) (hLe : pe.block ≠ L) (hLg : pg.block ≠ L) (hse : pe.block < w.heap.size) (hsg : pg.block < w.heap.size)
    (he : w.cell? pe = some (.iface 54 (.pointer (some x)))) (hg : w.cell? pg = some (.pointer (some ⟨G, 0, none⟩)))
    (h2 : w.cell? ⟨G, 2, none⟩ = some (.func (.func 4) #[] #[.pointer (some ⟨L, 0, none⟩)])) (h8 : w.cell? ⟨G, 8, none⟩ = some x8) (f8 : w.frozen? ⟨G, 8, none⟩ = false)
    (hc : w.cell? ⟨L, 0, none⟩ = some (.slice none 0 0)) (hz : w.frozen? ⟨L, 0, none⟩ = false) :
    Calls Yba.prog 8 #[.pointer (some pe), .pointer (some pg)] w fun r w' => r = .returned (.tuple #[]) ∧ ∃ g cap, w.heap.size ≤ g ∧ w'.cell? ⟨L, 0, none⟩ = some (.slice (some ⟨g, 0, none⟩) 1 cap) ∧ w'.cell? ⟨g, 0, none⟩ = some (.iface 54 (.pointer (some x))) ∧
      w'.cell? ⟨G, 8, none⟩ = some (.iface 54 (.pointer (some x))) ∧ (∀ B, B ≤ L → B ≤ G → Below B w w') ∧ (∀ j, j ≠ 8 → w'.cell? ⟨G, j, none⟩ = w.cell? ⟨G, j, none⟩) ∧ (∀ j, w'.frozen? ⟨G, j, none⟩ = w.frozen? ⟨G, j, none⟩) := by
  have e1 : (w.setCell ⟨G, 8, none⟩ (.iface 54 (.pointer (some x)))).cell? pe = some (.iface 54 (.pointer (some x))) := (World.cell?_setCell_other _ _ _ _ (fun h => hGe (by rw [← h]))).trans he
  have g1 : (w.setCell ⟨G, 8, none⟩ (.iface 54 (.pointer (some x)))).cell? pg = some (.pointer (some ⟨G, 0, none⟩)) := (World.cell?_setCell_other _ _ _ _ (fun h => hGg (by rw [← h]))).trans hg
  have c1 : (w.setCell ⟨G, 8, none⟩ (.iface 54 (.pointer (some x)))).cell? ⟨G, 2, none⟩ = some (.func (.func 4) #[] #[.pointer (some ⟨L, 0, none⟩)]) := (World.cell?_setCell_other _ _ _ _ (by simp)).trans h2
  have l1 : (w.setCell ⟨G, 8, none⟩ (.iface 54 (.pointer (some x)))).cell? ⟨L, 0, none⟩ = some (.slice none 0 0) := (World.cell?_setCell_other _ _ _ _ (fun h => hLG (congrArg Addr.block h).symm)).trans hc
  have z1 : (w.setCell ⟨G, 8, none⟩ (.iface 54 (.pointer (some x)))).frozen? ⟨L, 0, none⟩ = false := by simp [hz]
  have E1 : (w.setCell ⟨G, 8, none⟩ (.iface 54 (.pointer (some x)))).cell? ⟨G, 8, none⟩ = some (.iface 54 (.pointer (some x))) := World.cell?_setCell_same _ _ _ h8
  have s1 : (w.setCell ⟨G, 8, none⟩ (.iface 54 (.pointer (some x)))).heap.size = w.heap.size := by simp [World.setCell]
  have b1 : ∀ B, B ≤ G → Below B w (w.setCell ⟨G, 8, none⟩ (.iface 54 (.pointer (some x)))) := fun B hB => (Below.refl B w).setCell (by simpa using hB) _
  have k1 : ∀ j, j ≠ 8 → (w.setCell ⟨G, 8, none⟩ (.iface 54 (.pointer (some x)))).cell? ⟨G, j, none⟩ = w.cell? ⟨G, j, none⟩ := fun j hj => World.cell?_setCell_other _ _ _ _ (fun h => hj (congrArg Addr.off h).symm)
  have z2 : ∀ j, (w.setCell ⟨G, 8, none⟩ (.iface 54 (.pointer (some x)))).frozen? ⟨G, j, none⟩ = w.frozen? ⟨G, j, none⟩ := fun j => by simp
  go_enter Yba.func8, Yba.ntmps8
  go_wp2
  generalize w.setCell ⟨G, 8, none⟩ (.iface 54 (.pointer (some x))) = w1 at *
  go_region_held3 (fun w' => w'.cell? pg = some (.pointer (some ⟨G, 0, none⟩)) ∧ w'.cell? ⟨G, 2, none⟩ = some (.func (.func 4) #[] #[.pointer (some ⟨L, 0, none⟩)]) ∧ w'.cell? pe = some (.iface 54 (.pointer (some x)))) (go_keep)
    ((go_at_call 4; refine (cancel_first x L _ (by simp [s1]; omega) (by simpa using l1) (by simpa using z1)).mono ?_; rintro e w' ⟨rfl, g, cap, hgs, hl, hgc, hbel, hblk⟩; have p1 := (World.cell?_of_block (a := pg) (hblk pg.block (by simp [s1]; omega) hLg)).trans ((World.cell?_drew _ _).trans g1); have p2 := (World.cell?_of_block (a := pe) (hblk pe.block (by simp [s1]; omega) hLe)).trans ((World.cell?_drew _ _).trans e1); have p3 := (World.cell?_of_block (a := ⟨G, 2, none⟩) (hblk G (by simp [s1]; omega) (Ne.symm hLG))).trans ((World.cell?_drew _ _).trans c1)))
  have hGb := hblk G (by simp [s1]; omega) (Ne.symm hLG)
  have s2 : w1.drew.heap.size = w.heap.size := s1
  go_end0
  refine ⟨rfl, g, cap, by omega, hl, hgc, ?_, fun B h1 h2 => ((b1 B h2).drew).trans (hbel B h1), fun j hj => ?_, fun j => ?_⟩
  · exact (World.cell?_of_block (a := ⟨G, 8, none⟩) hGb).trans ((World.cell?_drew _ _).trans E1)
  · exact (World.cell?_of_block (a := ⟨G, j, none⟩) hGb).trans ((World.cell?_drew _ _).trans (k1 j hj))
  · exact (World.frozen?_of_block (a := ⟨G, j, none⟩) hGb).trans ((World.frozen?_drew _ _).trans (z2 j))

set_option maxRecDepth 100000 in
set_option maxHeartbeats 1600000 in
/-- '(*sync.Once).doSlow', not yet done, the lock free, the function 'fail''s closure. -/
theorem slow_first (x pe pg : Addr) (G L : Nat) (x8 : Value) (w : World) (hL : L < w.heap.size) (hG : G < w.heap.size) (hLG : L ≠ G) (hGe : pe.block ≠ G) (hGg : pg.block ≠ G) (hLe : pe.block ≠ L) (hLg : pg.block ≠ L) (hse : pe.block < w.heap.size) (hsg : pg.block < w.heap.size)
    (he : w.cell? pe = some (.iface 54 (.pointer (some x)))) (hg : w.cell? pg = some (.pointer (some ⟨G, 0, none⟩)))
    (h2 : w.cell? ⟨G, 2, none⟩ = some (.func (.func 4) #[] #[.pointer (some ⟨L, 0, none⟩)])) (h5 : w.cell? ⟨G, 5, none⟩ = some (.int .u32 0)) (h6 : w.cell? ⟨G, 6, none⟩ = some (.int .i32 0)) (h8 : w.cell? ⟨G, 8, none⟩ = some x8)
    (f5 : w.frozen? ⟨G, 5, none⟩ = false) (f6 : w.frozen? ⟨G, 6, none⟩ = false) (f8 : w.frozen? ⟨G, 8, none⟩ = false)
    (hc : w.cell? ⟨L, 0, none⟩ = some (.slice none 0 0)) (hz : w.frozen? ⟨L, 0, none⟩ = false) :
    Calls Yba.prog 10 #[.pointer (some ⟨G, 5, none⟩), .func (.func 8) #[] #[.pointer (some pe), .pointer (some pg)]] w fun r w' => r = .returned (.tuple #[]) ∧ ∃ g cap, w.heap.size ≤ g ∧ w'.cell? ⟨L, 0, none⟩ = some (.slice (some ⟨g, 0, none⟩) 1 cap) ∧ w'.cell? ⟨g, 0, none⟩ = some (.iface 54 (.pointer (some x))) ∧
      w'.cell? ⟨G, 8, none⟩ = some (.iface 54 (.pointer (some x))) ∧ w'.cell? ⟨G, 5, none⟩ = some (.int .u32 1) ∧ (∀ B, B ≤ L → B ≤ G → Below B w w') := by
  have h51 : (w.setCell ⟨G, 6, none⟩ (.int .i32 1)).cell? ⟨G, 5, none⟩ = some (.int .u32 0) := (World.cell?_setCell_other _ _ _ _ (by simp)).trans h5
  have h61 : (w.setCell ⟨G, 6, none⟩ (.int .i32 1)).cell? ⟨G, 6, none⟩ = some (.int .i32 1) := World.cell?_setCell_same _ _ _ h6
  have h21 : (w.setCell ⟨G, 6, none⟩ (.int .i32 1)).cell? ⟨G, 2, none⟩ = some (.func (.func 4) #[] #[.pointer (some ⟨L, 0, none⟩)]) := (World.cell?_setCell_other _ _ _ _ (by simp)).trans h2
  have h81 : (w.setCell ⟨G, 6, none⟩ (.int .i32 1)).cell? ⟨G, 8, none⟩ = some x8 := (World.cell?_setCell_other _ _ _ _ (by simp)).trans h8
  have hc1 : (w.setCell ⟨G, 6, none⟩ (.int .i32 1)).cell? ⟨L, 0, none⟩ = some (.slice none 0 0) := (World.cell?_setCell_other _ _ _ _ (fun h => hLG (congrArg Addr.block h).symm)).trans hc
  have he1 : (w.setCell ⟨G, 6, none⟩ (.int .i32 1)).cell? pe = some (.iface 54 (.pointer (some x))) := (World.cell?_setCell_other _ _ _ _ (fun h => hGe (by rw [← h]))).trans he
  have hg1 : (w.setCell ⟨G, 6, none⟩ (.int .i32 1)).cell? pg = some (.pointer (some ⟨G, 0, none⟩)) := (World.cell?_setCell_other _ _ _ _ (fun h => hGg (by rw [← h]))).trans hg
  have s1 : (w.setCell ⟨G, 6, none⟩ (.int .i32 1)).heap.size = w.heap.size := by simp [World.setCell]
  have b1 : ∀ B, B ≤ G → Below B w (w.setCell ⟨G, 6, none⟩ (.int .i32 1)) := fun B hB => (Below.refl B w).setCell (by simpa using hB) _
  have z1 : ∀ a, (w.setCell ⟨G, 6, none⟩ (.int .i32 1)).frozen? a = w.frozen? a := fun a => by simp
  have hl := run_call_load (P := Yba.prog) Yba.func11 (by kernel_rfl) (by kernel_rfl) (by kernel_rfl) .u32 (by kernel_rfl) h51
  have hnot : ∀ (x : Bool) (w : World), (Op.unary .not (.bool x)).run Yba.prog w = .ok (.bool (!x)) w := fun _ _ => rfl
  go_enter_defers Yba.func10, Yba.ntmps10
  go_wp2_with (first
    | (go_at_call 12; refine (lock_free Yba.muLib ⟨G, 6, none⟩ _ h6 f6).mono ?_; rintro e w' ⟨rfl, rfl⟩)
    | (go_at_call 9; go_in))
  refine (fail_closure x pe pg G L x8 _ (by omega) (by omega) hLG hGe hGg hLe hLg (by omega) (by omega) he1 hg1 h21 h81 (by rw [z1]; exact f8) hc1 (by rw [z1]; exact hz)).mono ?_
  rintro e w' ⟨rfl, g, cap, hgs, hl', hgc, h8', hbel, hk, hf⟩
  have c5 := (hk 5 (by omega)).trans h51
  have c6 := (hk 6 (by omega)).trans h61
  have q5 := ((hf 5).trans (z1 _)).trans f5
  have q6 := ((hf 6).trans (z1 _)).trans f6
  have hgG : g ≠ G := by omega
  go_wp2
  refine leaves_cons (f := 14) (args := #[.pointer (some ⟨G, 5, none⟩), .bool true]) (by simp) (by simp [go_sem]) ?_
  refine (store_deferred ⟨G, 5, none⟩ (.int .u32 0) .returning _ c5 q5).mono ?_
  rintro e u' w'' ⟨rfl, rfl, rfl⟩
  refine leaves_cons (f := 13) (args := #[.pointer (some ⟨G, 6, none⟩)]) (by simp [settle]) (by simp [go_sem]) ?_
  refine (unlock_deferred Yba.muLib ⟨G, 6, none⟩ _ _ ?_ (by simp [q6])).mono ?_
  · exact (World.cell?_setCell_other _ _ _ _ (by simp)).trans ((World.cell?_drew _ _).trans c6)
  rintro e u' w'' ⟨rfl, rfl, rfl⟩
  refine ⟨_, results_none rfl _ _ _, rfl, g, cap, by omega, ?_, ?_, ?_, ?_, fun B p1 p2 => ?_⟩
  · rw [World.cell?_setCell_other _ _ _ _ (fun h => hLG (congrArg Addr.block h).symm), World.cell?_setCell_other _ _ _ _ (fun h => hLG (congrArg Addr.block h).symm), World.cell?_drew]; exact hl'
  · rw [World.cell?_setCell_other _ _ _ _ (fun h => hgG (congrArg Addr.block h).symm), World.cell?_setCell_other _ _ _ _ (fun h => hgG (congrArg Addr.block h).symm), World.cell?_drew]; exact hgc
  · rw [World.cell?_setCell_other _ _ _ _ (by simp), World.cell?_setCell_other _ _ _ _ (by simp), World.cell?_drew]; exact h8'
  · rw [World.cell?_setCell_other _ _ _ _ (by simp)]; exact World.cell?_setCell_same _ _ _ ((World.cell?_drew _ _).trans c5)
  · exact ((((b1 B p2).trans (hbel B p1 p2)).drew).setCell (by simpa using p2) _).setCell (by simpa using p2) _
end Go.Proofs.Ybulkis
