import Derived.Test.YbulkisDoorAbandonWalk
import Derived.BigQuiet
import Derived.Deep.QuietTactic
namespace Go.Proofs.YbulkisDoor
open Go.RowKit Go.MuLone

/-- Where segment j's cells begin in its block: the first lies inside the scheduler. -/
def so (j : Nat) : Nat := if j = 0 then 10 else 0

/-- THE SHARED QUEUE, READY FOR TASK NUMBER n: n tasks lie in it, number i in segment i / 256 at place i % 256; the tail is segment n / 256, at place n % 256. -/
structure Ready (S M : Nat) (B : Nat → Nat) (n : Nat) (P : Nat → Nat) (w : World) : Prop where
  b0 : B 0 = S
  sm : S < M
  c9 : w.cell? ⟨S, 9, none⟩ = some (.int .i64 (n : Int))
  c4 : w.cell? ⟨S, 4, none⟩ = some (.int .i64 ((n % 256 : Nat) : Int))
  c3 : w.cell? ⟨S, 3, none⟩ = some (.pointer (some ⟨B (n / 256), so (n / 256), none⟩))
  tasks : ∀ i, i < n → w.cell? ⟨B (i / 256), so (i / 256) + i % 256, none⟩ = some (.pointer (some ⟨P i, 0, none⟩))
  next : ∀ j, j < n / 256 → w.cell? ⟨B j, so j + 256, none⟩ = some (.pointer (some ⟨B (j + 1), so (j + 1), none⟩))
  room : ∀ j, j < 257 → ∃ v, w.cell? ⟨B (n / 256), so (n / 256) + j, none⟩ = some v
  froz : ∀ j, w.frozen? ⟨B (n / 256), j, none⟩ = false
  frozS : ∀ j, w.frozen? ⟨S, j, none⟩ = false
  lo : ∀ j, 0 < j → j ≤ n / 256 → M ≤ B j
  inj : ∀ i j, i < j → j ≤ n / 256 → B i ≠ B j

/-- THE SHARED QUEUE WITH n TASKS IN IT. -/
structure Queue (S M : Nat) (B : Nat → Nat) (n : Nat) (P : Nat → Nat) (w : World) : Prop where
  b0 : B 0 = S
  sm : S < M
  c9 : w.cell? ⟨S, 9, none⟩ = some (.int .i64 (n : Int))
  c4 : w.cell? ⟨S, 4, none⟩ = some (.int .i64 ((if n = 0 then 0 else (n - 1) % 256 + 1 : Nat) : Int))
  c3 : w.cell? ⟨S, 3, none⟩ = some (.pointer (if n = 0 then none else some ⟨B ((n - 1) / 256), so ((n - 1) / 256), none⟩))
  tasks : ∀ i, i < n → w.cell? ⟨B (i / 256), so (i / 256) + i % 256, none⟩ = some (.pointer (some ⟨P i, 0, none⟩))
  next : ∀ j, j < (n - 1) / 256 → w.cell? ⟨B j, so j + 256, none⟩ = some (.pointer (some ⟨B (j + 1), so (j + 1), none⟩))
  room : ∀ j, j < 257 → ∃ v, w.cell? ⟨B ((n - 1) / 256), so ((n - 1) / 256) + j, none⟩ = some v
  froz : ∀ j, w.frozen? ⟨B ((n - 1) / 256), j, none⟩ = false
  frozS : ∀ j, w.frozen? ⟨S, j, none⟩ = false
  lo : ∀ j, 0 < j → j ≤ (n - 1) / 256 → M ≤ B j
  inj : ∀ i j, i < j → j ≤ (n - 1) / 256 → B i ≠ B j

theorem blockNe {a b i j : Nat} (h : a ≠ b) : (⟨a, i, none⟩ : Addr) ≠ ⟨b, j, none⟩ := fun e => h (congrArg Addr.block e)

/-- A place of a segment is none of the queue's three words. -/
theorem Ready.segNe {S M : Nat} {B : Nat → Nat} {n : Nat} {P : Nat → Nat} {w : World} (h : Ready S M B n P w) (j x q : Nat) (hj : j ≤ n / 256) (hq : q < 10) : (⟨B j, so j + x, none⟩ : Addr) ≠ ⟨S, q, none⟩ := by
  by_cases e : j = 0
  · subst e
    rw [h.b0]
    exact fun e => by have := congrArg Addr.off e; simp [so] at this; omega
  · have := h.lo j (by omega) hj
    exact blockNe (by have := h.sm; omega)

/-- The world behind the three stores. -/
def fill (S b f i : Nat) (m : Nat) (t : Value) (u : World) : World :=
  ((u.setCell ⟨b, f + i, none⟩ t).setCell ⟨S, 4, none⟩ (.int .i64 ((i + 1 : Nat) : Int))).setCell ⟨S, 9, none⟩ (.int .i64 ((m + 1 : Nat) : Int))

theorem fill_other {S b f i m : Nat} {t : Value} {u : World} {a : Addr} (h1 : a ≠ ⟨b, f + i, none⟩) (h2 : a ≠ ⟨S, 4, none⟩) (h3 : a ≠ ⟨S, 9, none⟩) : (fill S b f i m t u).cell? a = u.cell? a := by
  unfold fill
  rw [World.cell?_setCell_other _ _ _ _ (Ne.symm h3), World.cell?_setCell_other _ _ _ _ (Ne.symm h2), World.cell?_setCell_other _ _ _ _ (Ne.symm h1)]
theorem fill_some {S b f i m : Nat} {t : Value} {u : World} {a : Addr} {v : Value} (h : u.cell? a = some v) : ∃ v', (fill S b f i m t u).cell? a = some v' := by
  unfold fill
  obtain ⟨v1, h1⟩ := cell?_setCell_some (p := ⟨b, f + i, none⟩) (x := t) h
  obtain ⟨v2, h2⟩ := cell?_setCell_some (p := ⟨S, 4, none⟩) (x := .int .i64 ((i + 1 : Nat) : Int)) h1
  exact cell?_setCell_some (p := ⟨S, 9, none⟩) (x := .int .i64 ((m + 1 : Nat) : Int)) h2
theorem fill_frozen {S b f i m : Nat} {t : Value} {u : World} (a : Addr) : (fill S b f i m t u).frozen? a = u.frozen? a := by simp [fill]

theorem Ready.filled {S M : Nat} {B : Nat → Nat} {n : Nat} {P : Nat → Nat} {u : World} (h : Ready S M B n P u) :
    Queue S M B (n + 1) P (fill S (B (n / 256)) (so (n / 256)) (n % 256) n (.pointer (some ⟨P n, 0, none⟩)) u) := by
  have e1 : n + 1 - 1 = n := by omega
  have hs : ∀ j x q, j ≤ n / 256 → q < 10 → (⟨B j, so j + x, none⟩ : Addr) ≠ ⟨S, q, none⟩ := fun j x q => h.segNe j x q
  obtain ⟨v, hv⟩ := h.room (n % 256) (by omega)
  have n34 : (⟨S, 3, none⟩ : Addr) ≠ ⟨S, 4, none⟩ := by simp
  have n39 : (⟨S, 3, none⟩ : Addr) ≠ ⟨S, 9, none⟩ := by simp
  have k4 : (u.setCell ⟨B (n / 256), so (n / 256) + n % 256, none⟩ (.pointer (some ⟨P n, 0, none⟩))).cell? ⟨S, 4, none⟩ = some (.int .i64 ((n % 256 : Nat) : Int)) := (World.cell?_setCell_other _ _ _ _ (hs _ _ _ (Nat.le_refl _) (by omega))).trans h.c4
  refine ⟨h.b0, h.sm, ?_, ?_, ?_, fun i hi => ?_, fun j hj => ?_, fun j hj => ?_, fun j => ?_, fun j => ?_, ?_, ?_⟩
  · unfold fill
    refine World.cell?_setCell_same _ _ _ (u := .int .i64 (n : Int)) ?_
    rw [World.cell?_setCell_other _ _ _ _ (by simp), World.cell?_setCell_other _ _ _ _ (hs _ _ _ (Nat.le_refl _) (by omega))]
    exact h.c9
  · rw [if_neg (by omega), e1]
    unfold fill
    rw [World.cell?_setCell_other _ _ _ _ (by simp)]
    exact World.cell?_setCell_same _ _ _ k4
  · rw [if_neg (by omega), e1, fill_other (Ne.symm (hs _ _ _ (Nat.le_refl _) (by omega))) n34 n39]
    exact h.c3
  · by_cases e : i = n
    · subst e
      unfold fill
      rw [World.cell?_setCell_other _ _ _ _ (Ne.symm (hs _ _ _ (Nat.le_refl _) (by omega))), World.cell?_setCell_other _ _ _ _ (Ne.symm (hs _ _ _ (Nat.le_refl _) (by omega)))]
      exact World.cell?_setCell_same _ _ _ hv
    · have hi' : i / 256 ≤ n / 256 := Nat.div_le_div_right (by omega)
      rw [fill_other ?_ (hs _ _ _ hi' (by omega)) (hs _ _ _ hi' (by omega))]
      · exact h.tasks i (by omega)
      · by_cases e2 : i / 256 = n / 256
        · rw [e2]
          exact fun e3 => by have := congrArg Addr.off e3; simp only at this; omega
        · exact blockNe (h.inj _ _ (by omega) (Nat.le_refl _))
  · rw [e1] at hj
    rw [fill_other (blockNe (h.inj _ _ hj (Nat.le_refl _))) (hs _ _ _ (by omega) (by omega)) (hs _ _ _ (by omega) (by omega))]
    exact h.next j hj
  · rw [e1]
    obtain ⟨v, hv⟩ := h.room j hj
    exact fill_some hv
  · rw [e1, fill_frozen]; exact h.froz j
  · rw [fill_frozen]; exact h.frozS j
  · rw [e1]; exact h.lo
  · rw [e1]; exact h.inj
end Go.Proofs.YbulkisDoor
