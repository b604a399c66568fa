import Derived.Test.YbulkisDoorOrder
import Derived.Test.YbulkisDoorTie
import Derived.Test.YbulkisDoorCards
import Derived.ProofKit
import Derived.LaidMore
import Derived.OpenShut
import Derived.Stop.Joined
import Derived.Stop.LaidErr
import Derived.SevenTiedAt
namespace Go.Proofs.YbulkisDoor.pushOrder
open Go.ChangeShapes Go.WideShapes Go.ChangeAt Go.RowKit

theorem own : ownKnob Ybad.prog.godebug = none := by kernel_rfl
/-- The one named variable. -/
def vn : String := Rows.lawS0018CPushOrderSpec.vars.headD ""
theorem vnAt : Ybad.prog.globalNamed vn = some 0 := by kernel_rfl
theorem vnType : (Ybad.prog.globals[0]?).map (·.type) = some 102 := by kernel_rfl

/-- The door's own heap meets the condition. -/
theorem door_met (os : Os) (args : Array Value) : laidMetH Ybad.prog Rows.lawS0018CPushOrderRow.laid ((World.doorLaid Ybad.prog 400 os).forCall (fun _ _ => 0) ⟨#[], args, []⟩).memory :=
  laidMetH_of_parts3 (fuel := 8) (laidMet_of_run' 8 (by kernel_rfl) (by kernel_rfl)) (by kernel_rfl) (by kernel_rfl)

theorem var?_below {W W' : World} {n : String} {g : Nat} {cs : Array Value} (hg : Ybad.prog.globalNamed n = some g) (hlt : g < W.heap.size) (hb : Below W.heap.size W W') (h : W.var? Ybad.prog n = some cs) : W'.var? Ybad.prog n = some cs := by
  unfold World.var? at h ⊢
  simp only [hg, Option.bind_some] at h ⊢
  rw [hb.block g hlt]
  exact h

set_option maxRecDepth 100000 in
theorem order_lifted (os : Os) (started : os.Started) (H : Type) (enc : TypeId × Value → H) :
    ReturnsInHanded {} Ybad.checked os 3 .any (fun w args => (Rows.lawS0018CPushOrderSpec.pre enc Ybad.prog Ybad.f3 [] false w args ∧ laidMetH Ybad.prog Rows.lawS0018CPushOrderRow.laid w) ∧ sizedMet enc Ybad.prog Ybad.f3 (OpenSpec.ofChange Rows.lawS0018CPushOrderSpec) false w args)
      (Rows.lawS0018CPushOrderSpec.post enc Ybad.prog Ybad.f3 false true false false) := by
  refine returnsInHanded_of_change_and (C := Ybad.checked) (X := fun w _ => laidMetH Ybad.prog Rows.lawS0018CPushOrderRow.laid w) (fun _ _ _ hh h => h.of_heap hh) own started (by kernel_rfl) Ybad.func3
    (ChangeSpec.witness_shaped (enc := enc) (C := Ybad.checked) (os := os) (X := fun w _ => laidMetH Ybad.prog Rows.lawS0018CPushOrderRow.laid w) false (World.doorLaid Ybad.prog 400 os) #[.int .u16 0, .int .u16 0] 8 rfl (World.shaped_of_RefB (by kernel_rfl) (by kernel_rfl)) (by kernel_rfl) (by kernel_rfl) (by kernel_rfl) (door_met os _)) ?_
  intro W base args ds gs before hval0 hW _ _ hL _
  have hval : ∀ (j : Nat) t v, Ybad.f3.params[j]? = some t → args[j]? = some v → Value.okWide Ybad.prog W .any base t v := hval0
  have hW' := hW
  obtain ⟨p, q, hA0, hV0, rfl, hfz, hnd⟩ := hW
  have hA : DataW.TrodAll enc Ybad.prog W 0 (fun _ => true) true Ybad.f3.params.toList args.toList ds p := hA0
  have hV : DataW.TrodVars enc Ybad.prog W (fun _ => true) [vn] gs q := hV0
  rw [Ybad.params3] at hA hval
  obtain ⟨v0, v1, d0, d1, p0, p1, rfl, rfl, rfl, h0, h1⟩ := trodAll_two hA
  obtain ⟨n, rfl, rfl, rfl, hwn⟩ := open_int Ybad.underlying22 (hval 0 22 v0 rfl rfl) h0
  obtain ⟨m, rfl, rfl, rfl, hwm⟩ := open_int Ybad.underlying22 (hval 1 22 v1 rfl rfl) h1
  obtain ⟨g, t, cs, fuel, d, pv, rfl, hg, ht, hv, hd, rfl⟩ := trodVars_one hV
  obtain rfl := Option.some.inj (vnAt.symm.trans hg)
  obtain rfl := Option.some.inj (vnType.symm.trans ht)
  obtain ⟨x, rfl, hx, rfl, rfl, hc⟩ := token_of vnAt Ybad.underlying102 hv hd
  have bn := bounds_u16 hwn
  have bm := bounds_u16 hwm
  clear hA0 hV0 hval0
  have e1 : Rows.lawS0018CPushOrderSpec.fn H ([.lit (.int .u16 n), .lit (.int .u16 m)] ++ [tok enc x]) = { results := [.lit (.bool true)], args := [.lit (.int .u16 n), .lit (.int .u16 m)], vars := [tok enc x] } := rfl
  refine (order_walk n m bn.1 bn.2 bm.1 bm.2 W).mono fun e W' ⟨he, hb⟩ => ?_
  subst he
  refine ⟨_, rfl, _, _, _, [], [], [.cell 0 0], hW', ?_, ?_, ?_, hb.frame _, fun h => by cases h⟩
  · rw [e1]; exact trodAll_mk1 (shut_bool Ybad.underlying4 true)
  · rw [e1]; exact trodAll_mk2 (shut_int Ybad.underlying22 hwn) (shut_int Ybad.underlying22 hwm)
  · rw [e1]; exact vars_read1 enc vnAt vnType Ybad.underlying102 (var?_below vnAt (lt_of_cell hc) hb hv) hx _

theorem order_holds : Rows.LawS0018CPushOrderSaid :=
  OpenClaim.holds_of_wide 3 Ybad.f3 rfl rfl rfl rfl rfl rfl rfl ⟨rfl, rfl, rfl, rfl, rfl⟩ rfl rfl rfl rfl rfl (by kernel_rfl) Ybad.func3 (by kernel_rfl)
    (of_decide_eq_true (by kernel_rfl)) (by unfold Func.isWrapper; first | (rw [if_pos (by decide +kernel)]; kernel_rfl) | (rw [if_neg (by decide +kernel)]; exact ⟨rfl, rfl⟩))
    (fun os started H enc _ => order_lifted os started H enc)

/-- THE TIED CARD. -/
theorem order_card : Rows.LawS0018CPushOrderCardSaid :=
  Claim7.holds_tied_plain_at .later [] [.sentinel] true Rows.lawS0018CPushOrderCard.stood.harness false
    order_holds (fun _ h => by cases h) (by kernel_rfl) (fun _ h => by cases h) lawS0018CPushOrder_row_tie rfl ⟨rfl, rfl⟩ (by kernel_rfl) rfl
    (fun f fn hf hfn => by
      obtain rfl : f = 3 := Option.some.inj ((show Ybad.prog.funcNamed Rows.lawS0018CPushOrderRow.func = some 3 by kernel_rfl).symm.trans hf) |>.symm
      obtain rfl : fn = Ybad.f3 := (Option.some.inj (Ybad.func3.symm.trans hfn)).symm
      exact ⟨by kernel_rfl, fun j t ht => by
        rw [Ybad.params3] at ht
        have h3 : t = 22 := by
          rcases j with _ | _ | j
          · simpa using ht.symm
          · simpa using ht.symm
          · simp at ht
        subst h3
        exact (show Ybad.prog.wantsStandIn 22 = false by kernel_rfl)⟩)
    (by kernel_rfl)
end Go.Proofs.YbulkisDoor.pushOrder
