import Derived.Test.YbulkkiRows
import Derived.WalkKit
import Derived.Deep.DeepCutAuto
import Derived.Deep.MidRow
import Derived.Deep.RegionHeld3
namespace Go.Proofs.Ybulkki
open Go.RowKit

/-- An array of n bytes: its cells. -/
def arr (n : Nat) (C : Nat → Int) : List Value := (List.range n).map fun j => .int .u8 (C j)
theorem arr_length (n : Nat) (C : Nat → Int) : (arr n C).length = n := by simp [arr]
theorem arr_at (n : Nat) (C : Nat → Int) (j : Nat) (h : j < n) : (arr n C)[j]? = some (.int .u8 (C j)) := by simp [arr, h]
theorem arr_of {n : Nat} {C : Nat → Int} {j : Nat} {v : Value} (h : (arr n C)[j]? = some v) : j < n ∧ v = .int .u8 (C j) := by
  by_cases hj : j < n
  · rw [arr_at n C j hj] at h; exact ⟨hj, (Option.some.inj h).symm⟩
  · simp [arr, hj] at h
theorem arr_one (n : Nat) (C : Nat → Int) : ∀ v ∈ arr n C, v.oneCell' = true := by
  intro v hv
  simp only [arr, List.mem_map] at hv
  obtain ⟨q, _, rfl⟩ := hv
  rfl
theorem arr_congr {n : Nat} {C D : Nat → Int} (h : ∀ j, j < n → C j = D j) : arr n C = arr n D := by
  unfold arr
  exact List.map_congr_left fun j hj => by rw [h j (List.mem_range.1 hj)]
theorem arr_range {w : World} {b n : Nat} {C : Nat → Int} (h : ∀ j, j < n → w.cell? ⟨b, j, none⟩ = some (.int .u8 (C j))) : w.rangeAt b 0 (arr n C) := fun j v hv => by
  obtain ⟨hj, rfl⟩ := arr_of hv
  rw [Nat.zero_add]
  exact h j hj

theorem lt_of_cell {w : World} {a : Addr} {v : Value} (h : w.cell? a = some v) : a.block < w.heap.size := by
  rcases Nat.lt_or_ge a.block w.heap.size with hlt | hge
  · exact hlt
  · simp [World.cell?, Array.getElem?_eq_none hge] at h

theorem setCells_below (B : Nat) (b : Nat) (hb : B ≤ b) : ∀ (vs : List Value) (o : Nat) (a w : World), Below B a w → Below B a (w.setCells b o vs)
  | [], _, _, _, h => h
  | v :: vs, o, a, _, h => setCells_below B b hb vs (o + 1) a _ (h.setCell (p := ⟨b, o, none⟩) hb v)

/-- A result that is an array in memory. -/
theorem results_cell {P : Program} {fn : Func} {p : Tmp} {ty : TypeId} (h : fn.results = #[.cell p ty]) (tmps : Array Value) (w : World) (b o : Nat) (cs : List Value) (d : TypeDesc) (hp : tmps.getD p undef = .pointer (some ⟨b, o, none⟩)) (hc : w.rangeAt b o cs)
    (hu : P.underlying ty = some d) (hd : d.isRow = true) (hi : (P.info? ty).map (·.size) = some cs.length) : (results fn tmps).run P w = .ok (.agg cs.toArray) w := by
  have hp' : tmps[p]?.getD undef = .pointer (some ⟨b, o, none⟩) := by simpa using hp
  simp only [results, h]
  simp [hp', asAddr, run_loadVar_mid w b o ty cs d hc hu hd hi]

theorem size41 : (Yba.prog.info? 41).map (·.size) = some 8 := by kernel_rfl
theorem size23 : (Yba.prog.info? 23).map (·.size) = some 16 := by kernel_rfl
theorem blockNe {a b i j : Nat} (h : a ≠ b) : (⟨a, i, none⟩ : Addr) ≠ ⟨b, j, none⟩ := fun e => h (congrArg Addr.block e)
theorem offNe {a i j : Nat} (h : i ≠ j) : (⟨a, i, none⟩ : Addr) ≠ ⟨a, j, none⟩ := fun e => h (congrArg Addr.off e)
end Go.Proofs.Ybulkki
