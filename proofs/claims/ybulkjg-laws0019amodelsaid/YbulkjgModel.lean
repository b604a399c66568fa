import Derived.Test.YbulkjgKind
namespace Go.Proofs.Ybulkjg
open Go.RowKit

theorem ret_u8 {a b : Int} (h : b = a) : Ending.returned (.int .u8 a) = .returned (.int .u8 b) := by rw [h]

set_option maxRecDepth 100000 in
set_option maxHeartbeats 1600000 in
/-- 'zzs0019amodel'. -/
theorem model_any (k : Int) (a0 : Option Addr) (n cap : Nat) (O : Nat → Int) (U : Nat → Bool) (peer : Bool) (hn : n ≤ 1024) (w : World) (hO : ∀ q, q < n → 0 ≤ O q ∧ O q ≤ 255)
    (hc : ∀ q, q < n → ∃ b off, a0 = some ⟨b, off, none⟩ ∧ w.cell? ⟨b, off + q * 2, none⟩ = some (.int .u8 (O q)) ∧ w.cell? ⟨b, off + q * 2 + 1, none⟩ = some (.bool (U q))) :
    Calls Yba.prog 7 #[.int .u8 k, .slice a0 n cap, .bool peer] w fun e w' => e = .returned (.int .u8 (ka O U peer k n)) ∧ Below w.heap.size w w' := by
  go_enter Yba.func7, Yba.ntmps7
  go_wp2
  go_loopw [7] (fun i wr => ∃ j : Nat, j ≤ n ∧ i = .int .i64 ((j : Int) - 1) ∧ ka O U peer k n = ka O U peer k j ∧ Below w.heap.size w wr) (fun i _ => (intOf i + 1).toNat)
  case atStart => exact ⟨n, Nat.le_refl _, rfl, rfl, Below.refl _ _⟩
  case round =>
    obtain ⟨j, hj, rfl, hka, hB⟩ := hrel
    have HK : Hid (ka O U peer k n = ka O U peer k j) := hka
    clear hka
    cases j with
    | zero =>
      go_wp2
      go_ret
      exact ⟨by rw [HK.out]; rfl, hB⟩
    | succ m =>
      rw [show ((m + 1 : Nat) : Int) - 1 = (m : Int) by omega]
      obtain ⟨b, off, ha, c0, c1⟩ := hc m (by omega)
      subst ha
      obtain ⟨o0, o1⟩ := hO m (by omega)
      have d0 : wr.cell? ⟨b, off + m * 2, none⟩ = some (.int .u8 (O m)) := (hB.cell (lt_of_cell c0)).trans c0
      have d1 : wr.cell? ⟨b, off + m * 2 + 1, none⟩ = some (.bool (U m)) := (hB.cell (lt_of_cell c1)).trans c1
      have HS : Hid (ka O U peer k n = kstep peer (ka O U peer k m) (O m) (U m)) := HK.out
      have hBW : ∀ o, Below w.heap.size w (wr.alloc o) := fun o => hB.alloc hB.size o
      clear hc hO c0 c1 HK
      generalize O m = oj at *
      generalize U m = uj at *
      go_wp2
      · go_roundw
        case rel => exact ⟨m, by omega, rfl, HS.out.trans (ks_other ‹_›), hBW _⟩
        case measure => simp [intOf]
      · go_ret
        exact ⟨ret_u8 (HS.out.trans (ks_copy ‹_› ‹_›)), hBW _⟩
      · go_ret
        exact ⟨ret_u8 (HS.out.trans (ks_mkdir ‹_› ‹_› ‹_›)), hBW _⟩
      · have h2 : (oj % 11 == 2) = true := by assumption
        go_ret
        exact ⟨ret_u8 (HS.out.trans (ks_gone ‹_› ‹_› ‹_› (.inl (by simpa using h2)))), hBW _⟩
      · have h4 : (oj % 11 == 4) = true := by assumption
        go_ret
        exact ⟨ret_u8 (HS.out.trans (ks_gone ‹_› ‹_› ‹_› (.inr (by simpa using h4)))), hBW _⟩
      · go_roundw
        case rel => exact ⟨m, by omega, rfl, HS.out.trans (ks_none ‹_› ‹_› ‹_› ⟨‹_›, ‹_›⟩), hBW _⟩
        case measure => simp [intOf]

/-- THE LAW's WALK. -/
theorem law_short (k : Int) (a0 : Option Addr) (n cap : Nat) (O : Nat → Int) (U : Nat → Bool) (peer : Bool) (hn : n ≤ 1024) (w : World) (hO : ∀ q, q < n → 0 ≤ O q ∧ O q ≤ 255)
    (hc : ∀ q, q < n → ∃ b off, a0 = some ⟨b, off, none⟩ ∧ w.cell? ⟨b, off + q * 2, none⟩ = some (.int .u8 (O q)) ∧ w.cell? ⟨b, off + q * 2 + 1, none⟩ = some (.bool (U q))) :
    Calls Yba.prog 3 #[.int .u8 k, .slice a0 n cap, .bool peer] w fun e w' => e = .returned (.bool true) ∧ Below w.heap.size w w' := by
  have hnn : ¬ (1024 : Int) < (n : Int) := by omega
  go_enter Yba.func3, Yba.ntmps3
  go_wp2_with fail
  refine (build_any a0 n cap O U hn _ hO hc).mono ?_
  rintro e w1 ⟨g, rfl, hr, hB1⟩
  go_wp2_with fail
  refine (kind_any k g n O U peer hn _ hO hr).mono ?_
  rintro e w2 ⟨rfl, hB2⟩
  have hB : Below w.heap.size w w2 := hB1.trans (hB2.mono hB1.size)
  go_wp2_with fail
  refine (model_any k a0 n cap O U peer hn _ hO (fun q hq => ?_)).mono ?_
  · obtain ⟨b, off, ha, c0, c1⟩ := hc q hq
    exact ⟨b, off, ha, (hB.cell (lt_of_cell c0)).trans c0, (hB.cell (lt_of_cell c1)).trans c1⟩
  rintro e w3 ⟨rfl, hB3⟩
  go_wp2
  go_ret
  exact ⟨rfl, hB.trans (hB3.mono hB.size)⟩

theorem law_long (k : Int) (a0 : Option Addr) (n cap : Nat) (peer : Bool) (hn : ¬ n ≤ 1024) (w : World) :
    Calls Yba.prog 3 #[.int .u8 k, .slice a0 n cap, .bool peer] w fun e w' => e = .returned (.bool true) ∧ Below w.heap.size w w' := by
  have hnn : (1024 : Int) < (n : Int) := by omega
  go_enter Yba.func3, Yba.ntmps3
  go_wp2
  go_ret
  exact ⟨rfl, Below.refl _ _⟩
end Go.Proofs.Ybulkjg
