import Derived.Test.YbulknoLaw
import Derived.ProofKit
import Derived.OpenShut
import Derived.ChangeOld
import Derived.Deep.Grids
namespace Go.Proofs.Ybulkno.law
open Go.ChangeShapes Go.WideShapes Go.ChangeAt Go.RowKit Go.Deep

theorem own : ownKnob Yba.prog.godebug = none := by kernel_rfl
theorem laidOut : laidOutB Yba.prog = true := by kernel_rfl
theorem cells4 : Yba.prog.cellsOf 4 = 1 := by kernel_rfl
theorem bounds {a : Int} (h : (Lit.int .u64 a).wf = true) : 0 ≤ a ∧ a < 18446744073709551616 := by
  simp [Lit.wf] at h
  have e1 : IntKind.u64.min = 0 := by decide
  have e2 : IntKind.u64.max = 18446744073709551615 := by decide
  omega
theorem bounds8 {a : Int} (h : (Lit.int .u8 a).wf = true) : 0 ≤ a ∧ a ≤ 255 := by
  simp [Lit.wf] at h
  have e1 : IntKind.u8.min = 0 := by decide
  have e2 : IntKind.u8.max = 255 := by decide
  omega

/-- What the walks are told of the slice of bits. -/
theorem open_src {H : Type} {enc : TypeId × Value → H} {W : World} {fuel : Nat} {a0 : Option Addr} {len cap : Nat} {x : DataW H × List MemPlace} (h : DataW.trod enc Yba.prog W 0 (fun _ => true) true fuel 22 [.slice a0 len cap] = some x) :
    ∃ s : List Bool, s.length = len ∧ Src W a0 s := by
  rcases open_bools Yba.underlying22 Yba.underlying4 cells4 h with ⟨hcs, _⟩ | ⟨a, len', cap', B, hcs, _, hl, _, _, hx⟩
  · simp at hcs
    obtain ⟨_, rfl, _⟩ := hcs
    exact ⟨[], rfl, fun j hj => absurd hj (Nat.not_lt_zero j)⟩
  · simp at hcs
    obtain ⟨rfl, rfl, rfl⟩ := hcs
    refine ⟨(List.range len).map B, by simp, fun j hj => ?_⟩
    simp at hj
    have c0 := hx j (by omega)
    have hs : a.spot = none := by
      have := hx 0 (by omega)
      simpa [Addr.add] using World.cell?_spot this
    obtain ⟨b, off, sp⟩ := a
    simp only at hs
    subst hs
    refine ⟨b, off, rfl, ?_⟩
    rw [show (⟨b, off, none⟩ : Addr).add j = ⟨b, off + j, none⟩ by unfold Addr.add; split <;> simp_all] at c0
    rw [c0]
    simp [List.getD_eq_getElem?_getD, hj]

theorem walk (a : Option Addr) (n c : Nat) (v span kind : Int) (v0 : 0 ≤ v) (v1 : v < 18446744073709551616) (p0 : 0 ≤ span) (p1 : span < 18446744073709551616) (k0 : 0 ≤ kind) (k1 : kind ≤ 255) (w : World) (h : ∃ s : List Bool, s.length = n ∧ Src w a s) :
    Calls Yba.prog 3 #[.slice a n c, .int .u64 v, .int .u64 span, .int .u8 kind] w fun e w' => e = .returned (.bool true) ∧ Below w.heap.size w w' := by
  by_cases hn : n ≤ 1024
  · obtain ⟨s, rfl, hs⟩ := h
    exact law_walk a c s v span kind hn v0 v1 p0 p1 k0 k1 w hs
  · exact law_long a c n v span kind hn w

set_option maxRecDepth 100000 in
theorem lifted (os : Os) (started : os.Started) (H : Type) (enc : TypeId × Value → H) :
    ReturnsInHanded {} Yba.checked os 3 .any (Rows.lawS0027BBitsSpec.pre6 enc Yba.prog Yba.f3 Rows.lawS0027BBitsRow.domain false) (Rows.lawS0027BBitsSpec.post enc Yba.prog Yba.f3 false true false false) := by
  refine returnsInHanded_of_change (C := Yba.checked) own started (by kernel_rfl) Yba.func3
    (ChangeSpec.witness6 (enc := enc) (C := Yba.checked) false ⟨#[], #[.slice none 0 0, .int .u64 0, .int .u64 0, .int .u8 0], []⟩ 8 (by kernel_rfl) (by kernel_rfl) (by kernel_rfl) (by kernel_rfl)) ?_
  intro W base args ds gs before hval0 hW hcnd _
  have hval : ∀ (j : Nat) t v, Yba.f3.params[j]? = some t → args[j]? = some v → Value.okWide Yba.prog W .any base t v := hval0
  have hW' := hW
  obtain ⟨p, q, hA0, hV, rfl, hfz, hnd⟩ := hW
  have hA : DataW.TrodAll enc Yba.prog W 0 (fun _ => true) true Yba.f3.params.toList args.toList ds p := hA0
  rw [Yba.params3] at hA hval
  obtain ⟨v0, vs0, d0, ds0, p0, q0, hargs, rfl, rfl, h0, r0⟩ := trodAll_cons hA
  obtain ⟨v1, vs1, d1, ds1, p1, q1, rfl, rfl, rfl, h1, r1⟩ := trodAll_cons r0
  obtain ⟨v2, vs2, d2, ds2, p2, q2, rfl, rfl, rfl, h2, r2⟩ := trodAll_cons r1
  obtain ⟨v3, vs3, d3, ds3, p3, q3, rfl, rfl, rfl, h3, r3⟩ := trodAll_cons r2
  obtain ⟨rfl, rfl, rfl⟩ := trodAll_nil r3
  obtain rfl : args = #[v0, v1, v2, v3] := by cases args; simp_all
  obtain ⟨rfl, rfl⟩ := trodVars_none hV
  obtain ⟨a0, len, cap, rfl⟩ := okWide_slice Yba.underlying22 (hval 0 22 v0 rfl rfl)
  obtain ⟨b1, rfl, rfl, rfl, w1⟩ := open_int Yba.underlying23 (hval 1 23 v1 rfl rfl) h1
  obtain ⟨b2, rfl, rfl, rfl, w2⟩ := open_int Yba.underlying23 (hval 2 23 v2 rfl rfl) h2
  obtain ⟨b3, rfl, rfl, rfl, w3⟩ := open_int Yba.underlying5 (hval 3 5 v3 rfl rfl) h3
  have k0 := h0
  have lt0 : ∀ x ∈ p0, x.block < W.heap.size := by obtain ⟨m, hm⟩ := k0; exact DataW.trod_lt m _ _ _ hm
  have hs : ∃ s : List Bool, s.length = len ∧ Src W a0 s := by
    obtain ⟨fuel, hf⟩ := k0
    exact open_src (by simpa [Value.cells] using hf)
  clear hA0 hval0
  refine (walk a0 len cap b1 b2 b3 (bounds w1).1 (bounds w1).2 (bounds w2).1 (bounds w2).2 (bounds8 w3).1 (bounds8 w3).2 W hs).mono fun e W' ⟨he, bel⟩ => ?_
  subst he
  exact ⟨_, rfl, _, _, _, [], _, [], hW', trodAll_mk1 (shut_bool Yba.underlying4 _), (trodAll_cons_mk (Below.trod laidOut (by kernel_rfl) (of_decide_eq_true (by kernel_rfl)) h0 bel lt0) (trodAll_cons_mk (shut_int Yba.underlying23 w1) (trodAll_cons_mk (shut_int Yba.underlying23 w2) (trodAll_cons_mk (shut_int Yba.underlying5 w3) trodAll_mk0)))), rfl, bel.frame _, fun h => by cases h⟩

theorem proved : Rows.LawS0027BBitsSaid :=
  OpenClaim.holds_of_wide 3 Yba.f3 rfl rfl rfl rfl rfl rfl rfl ⟨rfl, rfl, rfl, rfl, rfl⟩ rfl rfl rfl rfl rfl (by kernel_rfl) Yba.func3 (by kernel_rfl)
    (of_decide_eq_true (by kernel_rfl)) (by unfold Func.isWrapper; first | (rw [if_pos (by decide +kernel)]; kernel_rfl) | (rw [if_neg (by decide +kernel)]; exact ⟨rfl, rfl⟩))
    (fun os started H enc _ => lifted os started H enc)
end Go.Proofs.Ybulkno.law
