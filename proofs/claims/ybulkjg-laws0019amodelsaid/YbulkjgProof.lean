import Derived.Test.YbulkjgModel
import Derived.ProofKit
import Derived.OpenShut
import Derived.ChangeOld
import Derived.Deep.SlicePairs
namespace Go.Proofs.Ybulkjg.law
open Go.ChangeShapes Go.WideShapes Go.ChangeAt Go.RowKit Go.Deep

theorem own : ownKnob Yba.prog.godebug = none := by kernel_rfl
theorem laidOut : laidOutB Yba.prog = true := by kernel_rfl
theorem cells32 : Yba.prog.cellsOf 32 = 2 := by kernel_rfl
theorem cells5 : Yba.prog.cellsOf 5 = 1 := by kernel_rfl
theorem cells4 : Yba.prog.cellsOf 4 = 1 := by kernel_rfl

/-- What the walks are told of the slice of actions. -/
theorem open_ops {H : Type} {enc : TypeId × Value → H} {W : World} {fuel : Nat} {a0 : Option Addr} {len cap : Nat} {x : DataW H × List MemPlace} (h : DataW.trod enc Yba.prog W 0 (fun _ => true) true fuel 22 [.slice a0 len cap] = some x) :
    ∃ (O : Nat → Int) (U : Nat → Bool), (∀ q, q < len → 0 ≤ O q ∧ O q ≤ 255) ∧
      ∀ q, q < len → ∃ b off, a0 = some ⟨b, off, none⟩ ∧ W.cell? ⟨b, off + q * 2, none⟩ = some (.int .u8 (O q)) ∧ W.cell? ⟨b, off + q * 2 + 1, none⟩ = some (.bool (U q)) := by
  rcases open_slice_pairs Yba.underlying22 Yba.underlying32 cells32 rfl rfl cells5 cells4 h with ⟨hcs, _⟩ | ⟨a, len', cap', m, n, V0, V1, D0, D1, P0, P1, hcs, _, hl, _, hm, _, hx⟩
  · simp at hcs
    obtain ⟨_, rfl, _⟩ := hcs
    exact ⟨fun _ => 0, fun _ => false, fun q hq => absurd hq (Nat.not_lt_zero q), fun q hq => absurd hq (Nat.not_lt_zero q)⟩
  · simp at hcs
    obtain ⟨rfl, rfl, rfl⟩ := hcs
    have hlm : len ≤ m := by rw [hm]; simp [hl]
    have each : ∀ q, q < len → ∃ p : Int × Bool, (0 ≤ p.1 ∧ p.1 ≤ 255) ∧ ∃ b off, some a = some (⟨b, off, none⟩ : Addr) ∧ W.cell? ⟨b, off + q * 2, none⟩ = some (.int .u8 p.1) ∧ W.cell? ⟨b, off + q * 2 + 1, none⟩ = some (.bool p.2) := by
      intro q hq
      obtain ⟨c0, c1, t0, t1⟩ := hx q (by omega)
      obtain ⟨o, e0, _, wo⟩ := DataW.trod_int Yba.underlying5 t0
      obtain ⟨u, e1, _⟩ := DataW.trod_bool Yba.underlying4 t1
      simp only [List.cons.injEq, and_true] at e0 e1
      rw [e0] at c0
      rw [e1] at c1
      have hs : a.spot = none := by
        have := (hx 0 (by omega)).1
        simpa [Addr.add] using World.cell?_spot this
      obtain ⟨b, off, sp⟩ := a
      simp only at hs
      subst hs
      rw [add_plain] at c0 c1
      have bo := bounds_u8 wo
      exact ⟨(o, u), bo, b, off, rfl, c0, by rw [Nat.add_assoc]; exact c1⟩
    obtain ⟨f, hf⟩ := choose_lt each
    exact ⟨fun q => (f q).1, fun q => (f q).2, fun q hq => (hf q hq).1, fun q hq => (hf q hq).2⟩

theorem walk (k : Int) (a0 : Option Addr) (n cap : Nat) (peer : Bool) (O : Nat → Int) (U : Nat → Bool) (w : World) (hO : ∀ q, q < n → 0 ≤ O q ∧ O q ≤ 255)
    (hc : ∀ q, q < n → ∃ b off, a0 = some ⟨b, off, none⟩ ∧ w.cell? ⟨b, off + q * 2, none⟩ = some (.int .u8 (O q)) ∧ w.cell? ⟨b, off + q * 2 + 1, none⟩ = some (.bool (U q))) :
    Calls Yba.prog 3 #[.int .u8 k, .slice a0 n cap, .bool peer] w fun e w' => e = .returned (.bool true) ∧ Below w.heap.size w w' := by
  by_cases hn : n ≤ 1024
  · exact law_short k a0 n cap O U peer hn w hO hc
  · exact law_long k a0 n cap peer hn w

set_option maxRecDepth 100000 in
theorem lifted (os : Os) (started : os.Started) (H : Type) (enc : TypeId × Value → H) :
    ReturnsInHanded {} Yba.checked os 3 .any (Rows.lawS0019AModelSpec.pre6 enc Yba.prog Yba.f3 Rows.lawS0019AModelRow.domain false) (Rows.lawS0019AModelSpec.post enc Yba.prog Yba.f3 false true false false) := by
  refine returnsInHanded_of_change (C := Yba.checked) own started (by kernel_rfl) Yba.func3
    (ChangeSpec.witness6 (enc := enc) (C := Yba.checked) false ⟨#[], #[.int .u8 0, .slice none 0 0, .bool false], []⟩ 8 (by kernel_rfl) (by kernel_rfl) (by kernel_rfl) (by kernel_rfl)) ?_
  intro W base args ds gs before hval0 hW hcnd _
  have hval : ∀ (j : Nat) t v, Yba.f3.params[j]? = some t → args[j]? = some v → Value.okWide Yba.prog W .any base t v := hval0
  have hW' := hW
  obtain ⟨p, q, hA0, hV, rfl, hfz, hnd⟩ := hW
  have hA : DataW.TrodAll enc Yba.prog W 0 (fun _ => true) true Yba.f3.params.toList args.toList ds p := hA0
  rw [Yba.params3] at hA hval
  obtain ⟨v0, vs0, d0, ds0, p0, q0, hargs, rfl, rfl, h0, r0⟩ := trodAll_cons hA
  obtain ⟨v1, vs1, d1, ds1, p1, q1, rfl, rfl, rfl, h1, r1⟩ := trodAll_cons r0
  obtain ⟨v2, vs2, d2, ds2, p2, q2, rfl, rfl, rfl, h2, r2⟩ := trodAll_cons r1
  obtain ⟨rfl, rfl, rfl⟩ := trodAll_nil r2
  obtain rfl : args = #[v0, v1, v2] := by cases args; simp_all
  obtain ⟨rfl, rfl⟩ := trodVars_none hV
  obtain ⟨k, rfl, rfl, rfl, wk⟩ := open_int Yba.underlying5 (hval 0 5 v0 rfl rfl) h0
  obtain ⟨a0, len, cap, rfl⟩ := okWide_slice Yba.underlying22 (hval 1 22 v1 rfl rfl)
  obtain ⟨peer, rfl, rfl, rfl⟩ := open_bool Yba.underlying4 (hval 2 4 v2 rfl rfl) h2
  have k1 := h1
  have lt1 : ∀ x ∈ p1, x.block < W.heap.size := by obtain ⟨m, hm⟩ := k1; exact DataW.trod_lt m _ _ _ hm
  obtain ⟨O, U, hO, hc⟩ : ∃ (O : Nat → Int) (U : Nat → Bool), (∀ q, q < len → 0 ≤ O q ∧ O q ≤ 255) ∧
      ∀ q, q < len → ∃ b off, a0 = some ⟨b, off, none⟩ ∧ W.cell? ⟨b, off + q * 2, none⟩ = some (.int .u8 (O q)) ∧ W.cell? ⟨b, off + q * 2 + 1, none⟩ = some (.bool (U q)) := by
    obtain ⟨fuel, hf⟩ := h1
    exact open_ops (by simpa [Value.cells] using hf)
  clear hA0 hval0
  refine (walk k a0 len cap peer O U W hO hc).mono fun e W' ⟨he, bel⟩ => ?_
  subst he
  exact ⟨_, rfl, _, _, _, [], _, [], hW', trodAll_mk1 (shut_bool Yba.underlying4 _), (trodAll_cons_mk (shut_int Yba.underlying5 wk) (trodAll_cons_mk (Below.trod laidOut (by kernel_rfl) (of_decide_eq_true (by kernel_rfl)) k1 bel lt1) (trodAll_cons_mk (shut_bool Yba.underlying4 _) trodAll_mk0))), rfl, bel.frame _, fun h => by cases h⟩

theorem proved : Rows.LawS0019AModelSaid :=
  OpenClaim.holds_of_wide 3 Yba.f3 rfl rfl rfl rfl rfl rfl rfl ⟨rfl, rfl, rfl, rfl, rfl⟩ rfl rfl rfl rfl rfl (by kernel_rfl) Yba.func3 (by kernel_rfl)
    (of_decide_eq_true (by kernel_rfl)) (by unfold Func.isWrapper; first | (rw [if_pos (by decide +kernel)]; kernel_rfl) | (rw [if_neg (by decide +kernel)]; exact ⟨rfl, rfl⟩))
    (fun os started H enc _ => lifted os started H enc)
end Go.Proofs.Ybulkjg.law
