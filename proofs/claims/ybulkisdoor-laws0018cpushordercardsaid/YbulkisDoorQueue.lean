import Derived.Test.YbulkisDoorPushW
namespace Go.Proofs.YbulkisDoor
open Go.RowKit Go.MuLone

/-- Below M only the queue's own cells of block S may have turned. -/
structure Kept (S M : Nat) (w w' : World) : Prop where
  os : w'.os = w.os
  tape : w'.tape = w.tape
  output : w'.output = w.output
  size : w.heap.size ≤ w'.heap.size
  block : ∀ k, k < M → k ≠ S → w'.heap[k]? = w.heap[k]?
  cell : ∀ j, j < 3 ∨ 267 ≤ j → w'.cell? ⟨S, j, none⟩ = w.cell? ⟨S, j, none⟩

theorem Kept.refl (S M : Nat) (w : World) : Kept S M w w := ⟨rfl, rfl, rfl, Nat.le_refl _, fun _ _ _ => rfl, fun _ _ => rfl⟩
theorem Kept.trans {S M : Nat} {a b c : World} (h : Kept S M a b) (k : Kept S M b c) : Kept S M a c :=
  ⟨k.os.trans h.os, k.tape.trans h.tape, k.output.trans h.output, Nat.le_trans h.size k.size, fun i hi hs => (k.block i hi hs).trans (h.block i hi hs), fun j hj => (k.cell j hj).trans (h.cell j hj)⟩
theorem Kept.drew {S M : Nat} {a w : World} (h : Kept S M a w) : Kept S M a w.drew := h.trans ⟨rfl, rfl, rfl, Nat.le_refl _, fun _ _ _ => rfl, fun _ _ => World.cell?_drew _ _⟩
/-- A store into one of the queue's words in block S. -/
theorem Kept.setS {S M : Nat} {a w : World} (h : Kept S M a w) (j : Nat) (u : Value) (h3 : 3 ≤ j) (h4 : j < 267) : Kept S M a (w.setCell ⟨S, j, none⟩ u) :=
  h.trans ⟨rfl, rfl, rfl, by simp [World.setCell], fun k _ hs => Below.heap_setCell _ _ _ _ hs, fun i hi => World.cell?_setCell_other _ _ _ _ (fun e => by have := congrArg Addr.off e; simp only at this; omega)⟩
/-- A store into a block from M on. -/
theorem Kept.setM {S M : Nat} {a w : World} (h : Kept S M a w) (b j : Nat) (u : Value) (hS : S < M) (hb : M ≤ b) : Kept S M a (w.setCell ⟨b, j, none⟩ u) :=
  h.trans ⟨rfl, rfl, rfl, by simp [World.setCell], fun k hk _ => Below.heap_setCell _ _ _ _ (by simp; omega), fun i _ => World.cell?_setCell_other _ _ _ _ (fun e => by have := congrArg Addr.block e; simp only at this; omega)⟩
theorem Kept.alloc {S M : Nat} {a w : World} (h : Kept S M a w) (o : Obj) (hS : S < M) (hM : M ≤ w.heap.size) : Kept S M a (w.alloc o) := by
  have hb : Below w.heap.size w (w.alloc o) := (Below.refl _ _).alloc (Nat.le_refl _) _
  exact h.trans ⟨rfl, rfl, rfl, hb.size, fun k hk _ => hb.block k (by omega), fun i _ => hb.cell (by simp; omega)⟩
/-- A store into a place of a segment. -/
theorem Kept.setSeg {S M : Nat} {a w : World} (h : Kept S M a w) (b f j : Nat) (u : Value) (hS : S < M) (hb : (b = S ∧ f = 10) ∨ M ≤ b) (hj : j < 257) : Kept S M a (w.setCell ⟨b, f + j, none⟩ u) := by
  rcases hb with ⟨rfl, rfl⟩ | hb
  · exact h.setS _ _ (by omega) (by omega)
  · exact h.setM _ _ _ hS hb
theorem Kept.fill {S M : Nat} {a w : World} (h : Kept S M a w) (b f i m : Nat) (t : Value) (hS : S < M) (hb : (b = S ∧ f = 10) ∨ M ≤ b) (hi : i < 257) : Kept S M a (fill S b f i m t w) :=
  ((h.setSeg b f i t hS hb hi).setS 4 _ (by omega) (by omega)).setS 9 _ (by omega) (by omega)

theorem zeros40 : ((List.range 257).all fun j => isNil Ybad.zeroCells40[j]?) = true := by kernel_rfl
theorem zeros40_at (j : Nat) (h : j < 257) : Ybad.zeroCells40[j]? = some (.pointer none) := isNil_out (List.all_eq_true.1 zeros40 j (List.mem_range.2 h))

theorem Queue.segAt {S M : Nat} {B : Nat → Nat} {n : Nat} {P : Nat → Nat} {w : World} (h : Queue S M B n P w) (j : Nat) (hj : j ≤ (n - 1) / 256) : (B j = S ∧ so j = 10) ∨ M ≤ B j := by
  by_cases e : j = 0
  · subst e; exact .inl ⟨h.b0, rfl⟩
  · exact .inr (h.lo j (by omega) hj)
theorem Queue.segNe {S M : Nat} {B : Nat → Nat} {n : Nat} {P : Nat → Nat} {w : World} (h : Queue S M B n P w) (j x q : Nat) (hj : j ≤ (n - 1) / 256) (hq : q < 10) : (⟨B j, so j + x, none⟩ : Addr) ≠ ⟨S, q, none⟩ := by
  rcases h.segAt j hj with ⟨h1, h2⟩ | h1
  · rw [h1, h2]
    exact fun e => by have := congrArg Addr.off e; simp only at this; omega
  · exact blockNe (by have := h.sm; omega)

/-- n = 0. -/
theorem Queue.readyA {S M : Nat} {B : Nat → Nat} {P : Nat → Nat} {w : World} (h : Queue S M B 0 P w) : Ready S M B 0 P (w.setCell ⟨S, 3, none⟩ (.pointer (some ⟨S, 10, none⟩))) := by
  have hb : B 0 = S := h.b0
  refine ⟨h.b0, h.sm, ?_, ?_, ?_, fun i hi => absurd hi (Nat.not_lt_zero i), fun j hj => absurd hj (by simp), fun j hj => ?_, fun j => ?_, fun j => ?_, fun j h1 h2 => absurd h2 (by simp; omega), fun i j h1 h2 => absurd h2 (by simp; omega)⟩
  · rw [World.cell?_setCell_other _ _ _ _ (by simp)]; exact h.c9
  · rw [World.cell?_setCell_other _ _ _ _ (by simp)]; simpa using h.c4
  · have := World.cell?_setCell_same _ _ (.pointer (some ⟨S, 10, none⟩)) h.c3
    simpa [hb, so] using this
  · obtain ⟨v, hv⟩ := h.room j hj
    exact cell?_setCell_some hv
  · rw [World.frozen?_setCell]; exact h.froz j
  · rw [World.frozen?_setCell]; exact h.frozS j

/-- The tail segment has room. -/
theorem Queue.readyB {S M : Nat} {B : Nat → Nat} {n : Nat} {P : Nat → Nat} {w : World} (h : Queue S M B n P w) (hn : n % 256 ≠ 0) : Ready S M B n P w := by
  have e1 : (n - 1) / 256 = n / 256 := by omega
  have e2 : (if n = 0 then 0 else (n - 1) % 256 + 1) = n % 256 := by split <;> omega
  obtain ⟨b0, sm, c9, c4, c3, tasks, next, room, froz, frozS, lo, inj⟩ := h
  rw [e2] at c4
  rw [if_neg (by omega)] at c3
  rw [e1] at c3 next room froz lo inj
  exact ⟨b0, sm, c9, c4, c3, tasks, next, room, froz, frozS, lo, inj⟩

/-- The tail segment is full: a new one is linked. -/
theorem Queue.readyC {S M : Nat} {B : Nat → Nat} {n : Nat} {P : Nat → Nat} {w : World} (h : Queue S M B n P w) (h0 : n ≠ 0) (hn : n % 256 = 0) (hM : M ≤ w.heap.size) :
    Ready S M (fun j => if j = n / 256 then w.heap.size else B j) n P ((((w.setCell ⟨B ((n - 1) / 256), so ((n - 1) / 256) + 256, none⟩ (.pointer (some ⟨w.heap.size, 0, none⟩))).setCell ⟨S, 3, none⟩ (.pointer (some ⟨w.heap.size, 0, none⟩))).setCell ⟨S, 4, none⟩ (.int .i64 0)).alloc (.cells Ybad.zeroCells40 40)) := by
  have e1 : n / 256 = (n - 1) / 256 + 1 := by omega
  have e2 : n / 256 ≠ 0 := by omega
  have hS := h.sm
  have hsz : (((w.setCell ⟨B ((n - 1) / 256), so ((n - 1) / 256) + 256, none⟩ (.pointer (some ⟨w.heap.size, 0, none⟩))).setCell ⟨S, 3, none⟩ (.pointer (some ⟨w.heap.size, 0, none⟩))).setCell ⟨S, 4, none⟩ (.int .i64 0)).heap.size = w.heap.size := by simp [World.setCell]
  have hnew : ∀ j, ((((w.setCell ⟨B ((n - 1) / 256), so ((n - 1) / 256) + 256, none⟩ (.pointer (some ⟨w.heap.size, 0, none⟩))).setCell ⟨S, 3, none⟩ (.pointer (some ⟨w.heap.size, 0, none⟩))).setCell ⟨S, 4, none⟩ (.int .i64 0)).alloc (.cells Ybad.zeroCells40 40)).cell? ⟨w.heap.size, j, none⟩ = Ybad.zeroCells40[j]? := fun j => World.cell?_alloc_at _ _ _ _ hsz.symm
  have hnewf : ∀ j, ((((w.setCell ⟨B ((n - 1) / 256), so ((n - 1) / 256) + 256, none⟩ (.pointer (some ⟨w.heap.size, 0, none⟩))).setCell ⟨S, 3, none⟩ (.pointer (some ⟨w.heap.size, 0, none⟩))).setCell ⟨S, 4, none⟩ (.int .i64 0)).alloc (.cells Ybad.zeroCells40 40)).frozen? ⟨w.heap.size, j, none⟩ = false := fun j => World.frozen?_alloc_at _ _ _ _ hsz.symm
  have hold : ∀ b j, b < w.heap.size → ((((w.setCell ⟨B ((n - 1) / 256), so ((n - 1) / 256) + 256, none⟩ (.pointer (some ⟨w.heap.size, 0, none⟩))).setCell ⟨S, 3, none⟩ (.pointer (some ⟨w.heap.size, 0, none⟩))).setCell ⟨S, 4, none⟩ (.int .i64 0)).alloc (.cells Ybad.zeroCells40 40)).cell? ⟨b, j, none⟩ =
      (((w.setCell ⟨B ((n - 1) / 256), so ((n - 1) / 256) + 256, none⟩ (.pointer (some ⟨w.heap.size, 0, none⟩))).setCell ⟨S, 3, none⟩ (.pointer (some ⟨w.heap.size, 0, none⟩))).setCell ⟨S, 4, none⟩ (.int .i64 0)).cell? ⟨b, j, none⟩ := fun b j hb => World.cell?_alloc_past _ _ _ (by rw [hsz]; exact hb)
  have lS : S < w.heap.size := by omega
  obtain ⟨vl, hvl⟩ := h.room 256 (by omega)
  have hlt : ∀ i, i < n → B (i / 256) < w.heap.size := fun i hi => lt_of_cell (h.tasks i hi)
  have hltj : ∀ j, j ≤ (n - 1) / 256 → B j < w.heap.size := fun j hj => by
    have := hlt (j * 256) (by omega)
    rwa [Nat.mul_div_cancel _ (by omega)] at this
  have ht : ∀ i, i < n → i / 256 ≠ n / 256 := fun i hi => by omega
  refine ⟨?_, h.sm, ?_, ?_, ?_, fun i hi => ?_, fun j hj => ?_, fun j hj => ?_, fun j => ?_, fun j => ?_, fun j h1 h2 => ?_, fun i j h1 h2 => ?_⟩
  · simp only [if_neg (Ne.symm e2)]; exact h.b0
  · rw [hold _ _ lS, World.cell?_setCell_other _ _ _ _ (by simp), World.cell?_setCell_other _ _ _ _ (by simp), World.cell?_setCell_other _ _ _ _ (h.segNe _ _ _ (Nat.le_refl _) (by omega))]; exact h.c9
  · rw [hold _ _ lS, hn]
    exact World.cell?_setCell_same _ _ _ ((World.cell?_setCell_other _ _ _ _ (by simp)).trans ((World.cell?_setCell_other _ _ _ _ (h.segNe _ _ _ (Nat.le_refl _) (by omega))).trans h.c4))
  · rw [hold _ _ lS, World.cell?_setCell_other _ _ _ _ (by simp)]
    have := World.cell?_setCell_same _ _ (.pointer (some ⟨w.heap.size, 0, none⟩)) ((World.cell?_setCell_other w ⟨B ((n - 1) / 256), so ((n - 1) / 256) + 256, none⟩ ⟨S, 3, none⟩ (.pointer (some ⟨w.heap.size, 0, none⟩)) (h.segNe _ _ _ (Nat.le_refl _) (by omega))).trans h.c3)
    simpa [so, e2] using this
  · simp only [if_neg (ht i hi)]
    have hi' : i / 256 ≤ (n - 1) / 256 := by omega
    rw [hold _ _ (hlt i hi), World.cell?_setCell_other _ _ _ _ (Ne.symm (h.segNe _ _ _ hi' (by omega))), World.cell?_setCell_other _ _ _ _ (Ne.symm (h.segNe _ _ _ hi' (by omega))), World.cell?_setCell_other _ _ _ _ ?_]
    · exact h.tasks i hi
    · by_cases e : i / 256 = (n - 1) / 256
      · rw [e]; exact fun e3 => by have := congrArg Addr.off e3; simp only at this; omega
      · exact blockNe (Ne.symm (h.inj _ _ (by omega) (Nat.le_refl _)))
  · simp only [if_neg (show j ≠ n / 256 by omega)]
    have hj' : j ≤ (n - 1) / 256 := by omega
    rw [hold _ _ (hltj j hj'), World.cell?_setCell_other _ _ _ _ (Ne.symm (h.segNe _ _ _ hj' (by omega))), World.cell?_setCell_other _ _ _ _ (Ne.symm (h.segNe _ _ _ hj' (by omega)))]
    by_cases e : j = (n - 1) / 256
    · have e4 : j + 1 = n / 256 := by omega
      simp only [if_pos e4]
      rw [e]
      have := World.cell?_setCell_same w ⟨B ((n - 1) / 256), so ((n - 1) / 256) + 256, none⟩ (.pointer (some ⟨w.heap.size, 0, none⟩)) hvl
      simpa [so] using this
    · simp only [if_neg (show j + 1 ≠ n / 256 by omega)]
      rw [World.cell?_setCell_other _ _ _ _ (blockNe (Ne.symm (h.inj _ _ (by omega) (Nat.le_refl _))))]
      exact h.next j (by omega)
  · simp only [if_true, so, if_neg e2, Nat.zero_add]
    exact ⟨_, (hnew j).trans (zeros40_at j hj)⟩
  · simp only [if_true]; exact hnewf j
  · rw [World.frozen?_alloc_past _ _ _ (by rw [hsz]; exact lS)]; simp [h.frozS]
  · by_cases e : j = n / 256
    · simp only [if_pos e]; exact hM
    · simp only [if_neg e]; exact h.lo j h1 (by omega)
  · by_cases e : j = n / 256
    · simp only [if_pos e, if_neg (show i ≠ n / 256 by omega)]
      have := hltj i (by omega)
      omega
    · simp only [if_neg e, if_neg (show i ≠ n / 256 by omega)]
      exact h.inj i j h1 (by omega)
end Go.Proofs.YbulkisDoor
