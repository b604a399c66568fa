import Derived.Test.YbulkisDoorAbandon
import Derived.Deep.DeepCutAuto
namespace Go.Proofs.YbulkisDoor
open Go.RowKit Go.MuLone

/-- A new scheduler. -/
structure New (S : Nat) (w : World) : Prop where
  calm : Calm S 0 0 w
  c3 : w.cell? ⟨S, 3, none⟩ = some (.pointer none)
  c4 : w.cell? ⟨S, 4, none⟩ = some (.int .i64 0)
  c9 : w.cell? ⟨S, 9, none⟩ = some (.int .i64 0)
  c275 : w.cell? ⟨S, 275, none⟩ = some (.int .u32 0)
  seg : ∀ j, j < 257 → w.cell? ⟨S, 10 + j, none⟩ = some (.pointer none)

def isI (k : IntKind) : Option Value → Bool
  | some (.int k' n) => k' == k && n == 0
  | _ => false
def isNil : Option Value → Bool
  | some (.pointer none) => true
  | _ => false
theorem isI_out {k : IntKind} {v : Option Value} (h : isI k v = true) : v = some (.int k 0) := by
  rcases v with _ | v
  · cases h
  · cases v <;> simp [isI] at h
    obtain ⟨rfl, rfl⟩ := h
    rfl
theorem isNil_out {v : Option Value} (h : isNil v = true) : v = some (.pointer none) := by
  rcases v with _ | v
  · cases h
  · cases v with
    | pointer a => cases a with
      | none => rfl
      | some _ => cases h
    | _ => cases h
/-- What a new scheduler's cells are asked. -/
def newChk (cs : Array Value) : Bool :=
  isI .i32 cs[1]? && isI .u32 cs[270]? && isI .u32 cs[277]? && isI .u32 cs[278]? && isI .u64 cs[282]? && isI .i64 cs[283]? && isI .u64 cs[301]? && isNil cs[3]? && isI .i64 cs[4]? && isI .i64 cs[9]? && isI .u32 cs[275]? && (List.range 257).all fun j => isNil cs[10 + j]?

theorem new_alloc (w : World) (cs : Array Value) (t : TypeId) (h : newChk cs = true) : New w.heap.size (w.alloc (.cells cs t)) := by
  have hc : ∀ j, (w.alloc (.cells cs t)).cell? ⟨w.heap.size, j, none⟩ = cs[j]? := fun j => World.cell?_alloc_new _ _ _ _
  have hz : ∀ j, (w.alloc (.cells cs t)).frozen? ⟨w.heap.size, j, none⟩ = false := fun j => by simp
  simp only [newChk, Bool.and_eq_true, List.all_eq_true, List.mem_range] at h
  obtain ⟨⟨⟨⟨⟨⟨⟨⟨⟨⟨⟨a1, a2⟩, a3⟩, a4⟩, a5⟩, a6⟩, a7⟩, a8⟩, a9⟩, a10⟩, a11⟩, a12⟩ := h
  exact ⟨⟨(hc _).trans (isI_out a1), (hc _).trans (isI_out a2), (hc _).trans (isI_out a3), (hc _).trans (isI_out a4), (hc _).trans (isI_out a5), (hc _).trans (isI_out a6), (hc _).trans (isI_out a7), hz⟩,
    (hc _).trans (isNil_out a8), (hc _).trans (isI_out a9), (hc _).trans (isI_out a10), (hc _).trans (isI_out a11), fun j hj => (hc _).trans (isNil_out (a12 j hj))⟩

theorem boolStoreAt (S j : Nat) (x : Value) (w : World) (hc : w.cell? ⟨S, j, none⟩ = some x) (hz : w.frozen? ⟨S, j, none⟩ = false) :
    Calls Ybad.prog 9 #[.pointer (some ⟨S, j, none⟩), .bool true] w fun e w' => e = .returned (.tuple #[]) ∧ Only S w w' ∧ w'.cell? ⟨S, j, none⟩ = some (.int .u32 1) ∧ (∀ i, i ≠ j → w'.cell? ⟨S, i, none⟩ = w.cell? ⟨S, i, none⟩) ∧ w'.heap.size = w.heap.size := by
  refine (boolStore ⟨S, j, none⟩ x w hc hz).mono ?_
  rintro e w' ⟨rfl, rfl⟩
  exact ⟨rfl, ((Only.refl _ _).drew).setCell _ _, World.cell?_setCell_same _ _ _ ((World.cell?_drew _ _).trans hc), fun i hi => (World.cell?_setCell_other _ _ _ _ (offNe _ _ hi)).trans (World.cell?_drew _ _), by simp [World.setCell]⟩

theorem i64StoreAt (S j : Nat) (x : Value) (y : Int) (w : World) (hc : w.cell? ⟨S, j, none⟩ = some x) (hz : w.frozen? ⟨S, j, none⟩ = false) :
    Calls Ybad.prog 10 #[.pointer (some ⟨S, j, none⟩), .int .i64 y] w fun e w' => e = .returned (.tuple #[]) ∧ Only S w w' ∧ w'.cell? ⟨S, j, none⟩ = some (.int .i64 y) ∧ (∀ i, i ≠ j → w'.cell? ⟨S, i, none⟩ = w.cell? ⟨S, i, none⟩) ∧ w'.heap.size = w.heap.size := by
  refine (i64Store ⟨S, j, none⟩ x y w hc hz).mono ?_
  rintro e w' ⟨rfl, rfl⟩
  exact ⟨rfl, (Only.refl _ _).setCell _ _, World.cell?_setCell_same _ _ _ hc, fun i hi => World.cell?_setCell_other _ _ _ _ (offNe _ _ hi), by simp [World.setCell]⟩

set_option maxRecDepth 100000 in
set_option maxHeartbeats 1600000 in
theorem abandon_walk (a0 a1 : Int) (h00 : 0 ≤ a0) (h01 : a0 ≤ 65535) (h10 : 0 ≤ a1) (h11 : a1 ≤ 255) (ev : Value) (w : World) (hE : w.cell? ⟨0, 0, none⟩ = some ev) :
    Calls Ybad.prog 4 #[.int .u16 a0, .int .u8 a1] w fun e w' => e = .returned (.bool true) ∧ Below w.heap.size w w' := by
  obtain ⟨k, hk⟩ : ∃ k : Nat, a0 % 600 = (k : Int) := ⟨(a0 % 600).toNat, by omega⟩
  have hk1 : k < 600 := by omega
  go_enter Ybad.func4, Ybad.ntmps4
  go_upto_region 2 with fail
  go_cut [6] (fun s6 wc => s6 = .pointer (some ⟨w.heap.size, 0, none⟩) ∧ New w.heap.size wc ∧ Below w.heap.size w wc ∧ wc.heap.size = w.heap.size + 1)
  case first =>
    go_wp2
    go_meet
    case rel =>
      exact ⟨rfl, new_alloc w _ _ (by kernel_rfl), (Below.refl _ _).alloc (Nat.le_refl _) _, by simp⟩
  case rest =>
    obtain ⟨rfl, hN, hB, hsz⟩ := hcut
    have hS0 : 0 < w.heap.size := lt_of_cell hE
    have hEc : wc.cell? ⟨0, 0, none⟩ = some ev := (hB.cell (lt_of_cell hE)).trans hE
    have hEb : ∀ {w'}, Only w.heap.size wc w' → w'.cell? ⟨0, 0, none⟩ = some ev := fun h => (h.cell (lt_of_cell hEc) (by simp; omega)).trans hEc
    go_wp2_with fail
    refine (boolStoreAt w.heap.size 275 _ _ hN.c275 (hN.calm.z 275)).mono ?_
    rintro e wA ⟨rfl, oA, cA, kA, sA⟩
    go_wp2_with fail
    refine (i64StoreAt w.heap.size 283 _ (k + a1) _ ((kA 283 (by omega)).trans hN.calm.c283) ((oA.froz 283).trans (hN.calm.z 283))).mono ?_
    rintro e wB ⟨rfl, oB, cB, kB, sB⟩
    go_wp2_with fail
    refine (tasks_any k (by omega) _).mono ?_
    rintro e wC ⟨g, P, rfl, hg1, hg2, hT, bC⟩
    have oAB := oA.trans oB
    have hSB : w.heap.size < wB.heap.size := by omega
    have kC : ∀ j, wC.cell? ⟨w.heap.size, j, none⟩ = wB.cell? ⟨w.heap.size, j, none⟩ := fun j => bC.cell hSB
    have kAB : ∀ j, j ≠ 275 → j ≠ 283 → wC.cell? ⟨w.heap.size, j, none⟩ = wc.cell? ⟨w.heap.size, j, none⟩ := fun j h1 h2 => (kC j).trans ((kB j h2).trans (kA j h1))
    have fC : ∀ j, wC.frozen? ⟨w.heap.size, j, none⟩ = false := fun j => (bC.frozen (p := ⟨w.heap.size, j, none⟩) hSB).trans ((oAB.froz j).trans (hN.calm.z j))
    have hC : Calm w.heap.size (k + a1) 0 wC := ⟨(kAB _ (by omega) (by omega)).trans hN.calm.c1, (kAB _ (by omega) (by omega)).trans hN.calm.c270, (kAB _ (by omega) (by omega)).trans hN.calm.c277, (kAB _ (by omega) (by omega)).trans hN.calm.c278, (kAB _ (by omega) (by omega)).trans hN.calm.c282,
      (kC _).trans cB, (kAB _ (by omega) (by omega)).trans hN.calm.c301, fC⟩
    have h275 : wC.cell? ⟨w.heap.size, 275, none⟩ = some (.int .u32 1) := (kC _).trans ((kB _ (by omega)).trans cA)
    have hEC : wC.cell? ⟨0, 0, none⟩ = some ev := (bC.cell (by simp; omega)).trans (hEb oAB)
    have bAll : Below w.heap.size w wC := (hB.trans (oAB.below (by omega) (Nat.le_refl _))).trans (bC.mono (by omega))
    clear kC fC hEb oA oB kA kB
    go_wp2_with fail
    refine (push_abandoned w.heap.size (wB.heap.size + 1) g k a1 P ev _ hS0 (by omega) (by omega) (by omega) h10 (by omega) hT hEC hC h275).mono ?_
    rintro e wD ⟨rfl, oD, d283, d301, kD⟩
    have kF : ∀ j, j ≠ 1 → j ≠ 282 → j ≠ 283 → j ≠ 301 → j ≠ 275 → wD.cell? ⟨w.heap.size, j, none⟩ = wc.cell? ⟨w.heap.size, j, none⟩ := fun j j1 j2 j3 j4 j5 => (kD j j1 j2 j3 j4).trans (kAB j j5 j3)
    have d3 := (kF 3 (by omega) (by omega) (by omega) (by omega) (by omega)).trans hN.c3
    have d4 := (kF 4 (by omega) (by omega) (by omega) (by omega) (by omega)).trans hN.c4
    have d9 := (kF 9 (by omega) (by omega) (by omega) (by omega) (by omega)).trans hN.c9
    have bD : Below w.heap.size w wD := bAll.trans (oD.below (by have := bAll.size; have := bC.size; omega) (Nat.le_refl _))
    clear kF kD kAB hT hEC hC h275 hN
    go_wp2_with fail
    refine (u64Load ⟨w.heap.size, 301, none⟩ k _ d301).mono ?_
    rintro e w' ⟨rfl, rfl⟩
    go_wp2_with fail
    refine (i64Load ⟨w.heap.size, 283, none⟩ a1 _ d283).mono ?_
    rintro e w' ⟨rfl, rfl⟩
    go_wp2_with fail
    refine (i64Load ⟨w.heap.size, 9, none⟩ 0 _ d9).mono ?_
    rintro e w' ⟨rfl, rfl⟩
    go_wp2
    go_ret
    exact ⟨rfl, bD⟩
end Go.Proofs.YbulkisDoor
