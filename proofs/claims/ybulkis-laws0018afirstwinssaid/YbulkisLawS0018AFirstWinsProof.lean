/-
  'Rows.LawS0018AFirstWinsSaid', proved: the frame by the kit's program for this function, the walk by hand.
-/
import Derived.Test.YbulkisRows
import Derived.WalkKit
import Derived.ProofKit
import Derived.OpenShut
import Derived.ShutString
import Derived.ChangeOld
import Derived.Below
import Derived.Test.YbulkisFail
import Derived.LaidEql
namespace Go.Proofs.Ybulkis.lawS0018AFirstWins
open Go.ChangeShapes Go.WideShapes Go.ChangeAt Go.RowKit
open Go.ChangeMaps (open_string shut_string)
set_option linter.unusedVariables false

theorem own : ownKnob Yba.prog.godebug = none := by kernel_rfl
theorem laidOut : laidOutB Yba.prog = true := by kernel_rfl

/-- WHAT THE WALK IS TOLD OF A SLICE OF INTEGERS THAT CAME IN: it is nil; or it leads to a row of 'cap' cells, the numbers 'zs' (the first 'len' are its elements, the rest its spare room), each fitting its kind. -/
def IsRow (k : IntKind) (w : World) (a : Option Addr) (len cap : Nat) (zs : List Int) : Prop :=
  (a = none ∧ len = 0 ∧ cap = 0 ∧ zs = []) ∨
  ∃ x, a = some x ∧ len ≤ cap ∧ cap ≤ maxLen ∧ zs.length = cap ∧ (∀ i, i < zs.length → w.cell? (x.add i) = some (.int k (zs.getD i 0))) ∧ ∀ n ∈ zs, (Lit.int k n).wf = true

theorem lt_of_cell {w : World} {a : Addr} {v : Value} (h : w.cell? a = some v) : a.block < w.heap.size := by
  rcases Nat.lt_or_ge a.block w.heap.size with hlt | hge
  · exact hlt
  · simp [World.cell?, Array.getElem?_eq_none hge] at h

theorem comp54 : (Yba.prog.info? 54).map (·.comparable) = some true := by kernel_rfl
theorem size56 : (Yba.prog.info? 56).map (·.size) = some 1 := by kernel_rfl
theorem eql_same (x : Addr) (w : World) : (binOp .eql 26 (.iface 54 (.pointer (some x))) (.iface 54 (.pointer (some x)))).run Yba.prog w = .ok (.bool true) w := by
  obtain ⟨i, hi, hc⟩ := Option.map_eq_some_iff.1 comp54
  obtain ⟨j, hj, _⟩ := Option.map_eq_some_iff.1 size56
  exact run_eql_iface_ptr_same w x Yba.underlying26 Yba.underlying54 hi hc hj

/-- What the group, the log and 'first' hold between two rounds: no error yet; or the first one, recorded once. -/
def St (B : Nat) (f : Value) (wr : World) : Prop :=
  (f = .nilIface ∧ wr.cell? ⟨B, 0, none⟩ = some (.slice none 0 0) ∧ wr.frozen? ⟨B, 0, none⟩ = false ∧
    wr.cell? ⟨B + 1, 2, none⟩ = some (.func (.func 4) #[] #[.pointer (some ⟨B, 0, none⟩)]) ∧ wr.cell? ⟨B + 1, 5, none⟩ = some (.int .u32 0) ∧ wr.cell? ⟨B + 1, 6, none⟩ = some (.int .i32 0) ∧ wr.cell? ⟨B + 1, 8, none⟩ = some .nilIface ∧
    wr.frozen? ⟨B + 1, 5, none⟩ = false ∧ wr.frozen? ⟨B + 1, 6, none⟩ = false ∧ wr.frozen? ⟨B + 1, 8, none⟩ = false) ∨
  (∃ x g cap, f = .iface 54 (.pointer (some x)) ∧ wr.cell? ⟨B, 0, none⟩ = some (.slice (some ⟨g, 0, none⟩) 1 cap) ∧ wr.cell? ⟨g, 0, none⟩ = some (.iface 54 (.pointer (some x))) ∧
    wr.cell? ⟨B + 1, 5, none⟩ = some (.int .u32 1) ∧ wr.cell? ⟨B + 1, 8, none⟩ = some (.iface 54 (.pointer (some x))))

theorem St.kept {B : Nat} {f : Value} {w1 w2 : World} (h : St B f w1) (hb : Below w1.heap.size w1 w2) : St B f w2 := by
  rcases h with ⟨h0, h1, h2, h3, h4, h5, h6, h7, h8, h9⟩ | ⟨x, g, cap, h0, h1, h2, h3, h4⟩
  · have q1 := lt_of_cell h1
    have q2 := lt_of_cell h3
    exact .inl ⟨h0, (hb.cell q1).trans h1, (hb.frozen q1).trans h2, (hb.cell q2).trans h3, (hb.cell (lt_of_cell h4)).trans h4, (hb.cell (lt_of_cell h5)).trans h5, (hb.cell (lt_of_cell h6)).trans h6, (hb.frozen (by exact q2)).trans h7, (hb.frozen (by exact q2)).trans h8, (hb.frozen (by exact q2)).trans h9⟩
  · exact .inr ⟨x, g, cap, h0, (hb.cell (lt_of_cell h1)).trans h1, (hb.cell (lt_of_cell h2)).trans h2, (hb.cell (lt_of_cell h3)).trans h3, (hb.cell (lt_of_cell h4)).trans h4⟩

set_option maxRecDepth 100000 in
set_option maxHeartbeats 1600000 in
theorem walk_short (a0 : Option Addr) (len0 cap0 : Nat) (hlen : len0 ≤ 1024) (w : World) (hc : ∀ i, i < len0 → ∃ b off p, a0 = some ⟨b, off, none⟩ ∧ 0 ≤ p ∧ p ≤ 255 ∧ w.cell? ⟨b, off + i, none⟩ = some (.int .u8 p)) :
    Calls Yba.prog 3 #[.slice a0 len0 cap0] w fun e w' => e = .returned (.bool true) ∧ Below w.heap.size w w' := by
  have hn : ¬ (1024 : Int) < (len0 : Int) := by omega
  go_enter Yba.func3, Yba.ntmps3
  go_wp2
  go_loopw [5, 17] (fun f i wr => ∃ k : Nat, k ≤ len0 ∧ i = .int .i64 k ∧ Below w.heap.size w wr ∧ St w.heap.size f wr) (fun _ i _ => len0 - (intOf i).toNat)
  case atStart =>
    refine ⟨0, Nat.zero_le _, rfl, ((Below.refl _ _).alloc (Nat.le_refl _) _).alloc (by simp) _, .inl ⟨rfl, ?_, ?_, ?_, ?_, ?_, ?_, ?_, ?_, ?_⟩⟩ <;> simp
  case round =>
    obtain ⟨k, hk, rfl, hbel, hst⟩ := hrel
    by_cases hlt : k < len0
    · obtain ⟨b, off, p, ha, hp0, hp1, hck⟩ := hc k hlt
      subst ha
      have hcr : wr.cell? ⟨b, off + k, none⟩ = some (.int .u8 p) := (hbel.cell (lt_of_cell hck)).trans hck
      clear hck hc
      have hBr : w.heap.size + 1 < wr.heap.size := by
        rcases hst with ⟨_, _, _, h, _⟩ | ⟨_, _, _, _, _, _, h, _⟩ <;> exact lt_of_cell h
      by_cases hp3 : p % 3 = 0
      · have HS : Hid (St w.heap.size _ wr) := hst
        have hk1 : ∀ v8, Below wr.heap.size wr ((wr.alloc (.cells #[.pointer (some ⟨w.heap.size + 1, 0, none⟩)] 24)).alloc (.cells #[v8] 26)) := fun _ => ((Below.refl _ _).alloc (Nat.le_refl _) _).alloc (by simp) _
        rcases hst with ⟨rfl, _⟩ | ⟨x, g, cap, rfl, _⟩
        · go_wp2_with (go_at_call 6; refine (fail_nil ⟨w.heap.size + 1, 0, none⟩ _).mono ?_; rintro e w' ⟨rfl, rfl⟩)
          go_roundw
          case rel => exact ⟨k + 1, by omega, by go_num, hbel.trans ((hk1 _).mono (by omega)), HS.out.kept (hk1 _)⟩
          case measure => simp [intOf]; omega
        · go_wp2_with (go_at_call 6; refine (fail_nil ⟨w.heap.size + 1, 0, none⟩ _).mono ?_; rintro e w' ⟨rfl, rfl⟩)
          go_roundw
          case rel => exact ⟨k + 1, by omega, by go_num, hbel.trans ((hk1 _).mono (by omega)), HS.out.kept (hk1 _)⟩
          case measure => simp [intOf]; omega
      · have hk0 : ∀ o, Below wr.heap.size wr (wr.alloc o) := fun _ => (Below.refl _ _).alloc (Nat.le_refl _) _
        have HS : Hid (∀ o, St w.heap.size _ (wr.alloc o)) := fun o => hst.kept (hk0 o)
        have hs1 : ∀ o, (wr.alloc o).heap.size = wr.heap.size + 1 := fun o => by simp
        have hk1 : ∀ o v8, Below (wr.alloc o).heap.size (wr.alloc o) (((wr.alloc o).alloc (.cells #[.pointer (some ⟨w.heap.size + 1, 0, none⟩)] 24)).alloc (.cells #[v8] 26)) := fun _ _ => ((Below.refl _ _).alloc (Nat.le_refl _) _).alloc (by simp) _
        rcases hst with ⟨rfl, _⟩ | ⟨x, g, cap, rfl, hst⟩
        · clear hk1
          go_wp2_with (first | (go_at_call 5; go_in) | fail)
          rcases HS.out (.cells #[.string ⟨#[101]⟩] 56) with ⟨_, h1, h2, h3, h4, h5, h6, h7, h8, h9⟩ | ⟨x, g, cap, h, _⟩
          · refine (fail_first ⟨wr.heap.size, 0, none⟩ (w.heap.size + 1) w.heap.size .nilIface _ (by rw [hs1]; omega) (by rw [hs1]; omega) (by omega) h3 h4 h5 h6 h7 h8 h9 h1 h2).mono ?_
            rintro e w' ⟨rfl, g, cap, q1, q2, q3, q4, q5, q6⟩
            go_wp2
            go_roundw
            case rel => exact ⟨k + 1, by omega, by go_num, (hbel.trans ((hk0 _).mono (by omega))).trans (q6 _ (by omega) (by omega)), .inr ⟨_, g, cap, rfl, q2, q3, q5, q4⟩⟩
            case measure => simp [intOf]; omega
          · cases h
        · have h5' : ∀ o, (wr.alloc o).cell? ⟨w.heap.size + 1, 5, none⟩ = some (.int .u32 1) := fun o => ((hk0 o).cell (lt_of_cell hst.2.2.1)).trans hst.2.2.1
          go_wp2_with (first | (go_at_call 5; go_in) | (go_at_call 6; refine (fail_done _ (w.heap.size + 1) _ (by rw [hs1]; omega) (h5' _)).mono ?_; rintro e w' ⟨rfl, rfl⟩))
          go_roundw
          case rel => exact ⟨k + 1, by omega, by go_num, (hbel.trans ((hk0 _).mono (by omega))).trans ((hk1 _ _).mono (by simp; omega)), (HS.out _).kept (hk1 _ _)⟩
          case measure => simp [intOf]; omega
    · rcases hst with ⟨rfl, h1, h2, h3, h4, h5, h6, h7, h8, h9⟩ | ⟨x, g, cap, rfl, h1, h2, h3, h4⟩
      · go_wp2
        go_ret
        exact ⟨rfl, hbel⟩
      · have he := eql_same x
        go_wp2
        go_ret
        exact ⟨rfl, hbel⟩

/-! ### STEP 1: THE WALK -/
theorem walk (a0 : Option Addr) (len0 cap0 : Nat) (z0 : List Int) (w : World) (w0 : IsRow .u8 w a0 len0 cap0 z0) :
    Calls Yba.prog 3 #[.slice a0 len0 cap0] w fun e w' => e = .returned (.bool true) ∧ Below w.heap.size w w' := by
  by_cases hlen : len0 ≤ 1024
  · refine walk_short a0 len0 cap0 hlen w fun i hi => ?_
    rcases w0 with ⟨_, h, _⟩ | ⟨x, rfl, h1, h2, h3, h4, h5⟩
    · omega
    · have hc := h4 i (by omega)
      have hs : x.spot = none := by simpa [Addr.add] using World.cell?_spot (h4 0 (by omega))
      obtain ⟨b, off, sp⟩ := x
      simp only at hs
      subst hs
      have hb := range_u8 h5 i
      refine ⟨b, off, z0.getD i 0, rfl, ?_, ?_, by rw [← add_plain]; exact hc⟩ <;> simp <;> omega
  · have hn : (1024 : Int) < (len0 : Int) := by omega
    go_enter Yba.func3, Yba.ntmps3
    go_wp2
    go_ret
    exact ⟨rfl, Below.refl _ _⟩

/-! ### THE ROW's STEP: WRITTEN OUT: LEAVE IT -/
set_option maxRecDepth 100000 in
theorem lifted (os : Os) (started : os.Started) (H : Type) (enc : TypeId × Value → H) :
    ReturnsInHanded {} Yba.checked os 3 .any (Rows.lawS0018AFirstWinsSpec.pre6 enc Yba.prog Yba.f3 Rows.lawS0018AFirstWinsRow.domain false) (Rows.lawS0018AFirstWinsSpec.post enc Yba.prog Yba.f3 false true false false) := by
  refine returnsInHanded_of_change (C := Yba.checked) own started (by kernel_rfl) Yba.func3
    (ChangeSpec.witness6 (enc := enc) (C := Yba.checked) false ⟨#[], #[.slice none 0 0], []⟩ 8 (by kernel_rfl) (by kernel_rfl) (by kernel_rfl) (by kernel_rfl)) ?_
  intro W base args ds gs before hval0 hW hcnd _
  have hval : ∀ (j : Nat) t v, Yba.f3.params[j]? = some t → args[j]? = some v → Value.okWide Yba.prog W .any base t v := hval0
  have hW' := hW
  obtain ⟨p, q, hA0, hV, rfl, hfz, hnd⟩ := hW
  have hA : DataW.TrodAll enc Yba.prog W 0 (fun _ => true) true Yba.f3.params.toList args.toList ds p := hA0
  rw [Yba.params3] at hA hval
  obtain ⟨v0, vs0, d0, ds0, p0, q0, hargs, rfl, rfl, h0, r0⟩ := trodAll_cons hA
  obtain ⟨rfl, rfl, rfl⟩ := trodAll_nil r0
  obtain rfl : args = #[v0] := by cases args; simp_all
  obtain ⟨rfl, rfl⟩ := trodVars_none hV
  obtain ⟨a0, len0, cap0, rfl⟩ := okWide_slice Yba.underlying22 (hval 0 22 v0 rfl rfl)
  have k0 := h0
  have lt0 : ∀ x ∈ p0, x.block < W.heap.size := by obtain ⟨m, hm⟩ := k0; exact DataW.trod_lt m _ _ _ hm
  obtain ⟨z0, w0⟩ : ∃ zs, IsRow .u8 W a0 len0 cap0 zs := by
    obtain ⟨fuel, hf⟩ := h0
    rcases open_ints Yba.underlying22 Yba.underlying5 (by kernel_rfl) hf with ⟨hcs, _⟩ | ⟨x, l, c, zs, hcs, _, hl, hm, hz, _, hcell, hwz⟩
    · simp [Value.cells] at hcs
      obtain ⟨rfl, rfl, rfl⟩ := hcs
      exact ⟨[], .inl ⟨rfl, rfl, rfl, rfl⟩⟩
    · simp [Value.cells] at hcs
      obtain ⟨rfl, rfl, rfl⟩ := hcs
      exact ⟨zs, .inr ⟨_, rfl, hl, hm, by simpa using hz, hcell, hwz⟩⟩
  clear hA0 hval0
  refine (walk a0 len0 cap0 z0 W w0).mono fun e W' ⟨he, bel⟩ => ?_
  subst he
  exact ⟨_, rfl, _, _, _, [], _, [], hW', trodAll_mk1 (shut_bool Yba.underlying4 _), (trodAll_cons_mk (Below.trod laidOut (by kernel_rfl) (of_decide_eq_true (by kernel_rfl)) k0 bel lt0) trodAll_mk0), rfl, bel.frame _, fun h => by cases h⟩

theorem over : Rows.lawS0018AFirstWinsRow.holds Yba.pinned (OpenSpec.ofChange Rows.lawS0018AFirstWinsSpec) :=
  OpenClaim.holds_of_wide 3 Yba.f3 rfl rfl rfl rfl rfl rfl rfl ⟨rfl, rfl, rfl, rfl, rfl⟩ rfl rfl rfl rfl rfl (by kernel_rfl) Yba.func3 (by kernel_rfl)
    (of_decide_eq_true (by kernel_rfl)) (by unfold Func.isWrapper; first | (rw [if_pos (by decide +kernel)]; kernel_rfl) | (rw [if_neg (by decide +kernel)]; exact ⟨rfl, rfl⟩))
    (fun os started H enc _ => lifted os started H enc)

/-- ████ THE STATEMENT ████ -/
theorem proved : Rows.LawS0018AFirstWinsSaid := over
end Go.Proofs.Ybulkis.lawS0018AFirstWins
