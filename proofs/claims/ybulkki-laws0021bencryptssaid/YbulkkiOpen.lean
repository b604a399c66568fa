import Derived.Test.YbulkkiArr
import Derived.ProofKit
import Derived.OpenShut
import Derived.ChangeOld
import Derived.Deep.Slices
namespace Go.Proofs.Ybulkki
open Go.ChangeShapes Go.WideShapes Go.ChangeAt Go.RowKit Go.Deep

theorem own : ownKnob Yba.prog.godebug = none := by kernel_rfl
theorem laidOut : laidOutB Yba.prog = true := by kernel_rfl
theorem cells23 : Yba.prog.cellsOf 23 = 16 := by kernel_rfl
theorem cells5 : Yba.prog.cellsOf 5 = 1 := by kernel_rfl

/-- An argument of type [16]byte: sixteen bytes. -/
theorem open_arr {H : Type} {enc : TypeId × Value → H} {W : World} {base : Nat} {v : Value} {d : DataW H} {p : List MemPlace} (hv : Value.okWide Yba.prog W .any base 23 v) (h : DataW.Trod enc Yba.prog W 0 (fun _ => true) true 23 v d p) :
    ∃ C : Nat → Int, v = .agg (arr 16 C).toArray ∧ ∀ j, j < 16 → 0 ≤ C j ∧ C j ≤ 255 := by
  simp only [Value.okWide, Yba.underlying23] at hv
  obtain ⟨cs, rfl, hsz, _⟩ := hv
  rw [cells23] at hsz
  obtain ⟨fuel, hf⟩ := h
  obtain ⟨xs, m, _, _, _, hxs, hel⟩ := DataW.trod_array Yba.underlying23 hf
  have each : ∀ j, j < 16 → ∃ z : Int, cs.toList[j]? = some (.int .u8 z) ∧ 0 ≤ z ∧ z ≤ 255 := fun j hj => by
    have hj2 := hel j hj
    rw [List.getElem?_eq_getElem (by omega), cells5] at hj2
    obtain ⟨z, e, _, wz⟩ := DataW.trod_int Yba.underlying5 hj2
    have hc : (Value.agg cs).cells.toList = cs.toList := by simp [Value.cells]
    rw [hc, Nat.mul_one] at e
    refine ⟨z, ?_, bounds_u8 wz⟩
    have := congrArg (fun l => l[0]?) e
    simpa using this
  obtain ⟨C, hC⟩ := choose_lt each
  refine ⟨C, ?_, fun j hj => (hC j hj).2⟩
  congr 1
  apply Array.ext'
  apply List.ext_getElem?
  intro j
  by_cases hj : j < 16
  · rw [(hC j hj).1, List.toList_toArray, arr_at 16 C j hj]
  · rw [List.getElem?_eq_none (by simp; omega), List.getElem?_eq_none (by simp [arr_length]; omega)]
end Go.Proofs.Ybulkki
