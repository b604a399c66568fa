import Derived.Test.YbulkjgRows
import Derived.WalkKit
import Derived.Deep.MidRow
import Derived.Deep.DeepCutAuto
namespace Go.Proofs.Ybulkjg
open Go.RowKit

theorem Yba.zero39 : ∃ i z, Yba.prog.info? 39 = some i ∧ i.zero = some z ∧ i.size = 39 ∧ i.bytes = 104 := by
  have h : (Yba.prog.info? 39).map (fun i => (i.zero.isSome, i.size, i.bytes)) = some (true, 39, 104) := by kernel_rfl
  obtain ⟨i, hi, h2⟩ := Option.map_eq_some_iff.1 h
  simp only [Prod.mk.injEq] at h2
  obtain ⟨z, hz⟩ := Option.isSome_iff_exists.1 h2.1
  exact ⟨i, z, hi, hz, h2.2.1, h2.2.2⟩

/-- The cells of 'Action{Op: Op(o % 11), Out: u}'. -/
def act (o : Int) (u : Bool) : List Value := [.int .u8 (o % 11), .bool u, .string ⟨#[]⟩, .string ⟨#[]⟩, .int .u8 0, .int .u8 0, .int .u8 0, .int .u8 0, .int .u8 0, .int .u8 0, .int .u8 0, .int .u8 0, .int .u8 0, .int .u8 0, .int .u8 0, .int .u8 0, .int .u8 0, .int .u8 0, .int .u8 0, .int .u8 0, .int .u8 0, .int .u8 0, .int .u8 0, .int .u8 0, .int .u8 0, .int .u8 0, .int .u8 0, .int .u8 0, .int .u8 0, .int .u8 0, .int .u8 0, .int .u8 0, .int .u8 0, .int .u8 0, .int .u8 0, .int .u8 0, .bool false, .string ⟨#[]⟩, .bool false]
theorem act_length (o : Int) (u : Bool) : (act o u).length = 39 := rfl
theorem act_one (o : Int) (u : Bool) : ∀ v ∈ act o u, v.oneCell' = true := by
  have h : (act o u).all (·.oneCell') = true := rfl
  exact fun v hv => List.all_eq_true.1 h v hv

theorem lt_of_cell {w : World} {a : Addr} {v : Value} (h : w.cell? a = some v) : a.block < w.heap.size := by
  rcases Nat.lt_or_ge a.block w.heap.size with hlt | hge
  · exact hlt
  · simp [World.cell?, Array.getElem?_eq_none hge] at h

theorem news_at (w : World) (l : List Value) (t : TypeId) (g : Nat) (hg : g = w.heap.size) (j : Nat) (u : Value) (h : l[j]? = some u) : (w.alloc (.cells l.toArray t)).cell? ((⟨g, 0, none⟩ : Addr).add j) = some u := by
  rw [Addr.add_mid, Nat.zero_add, World.cell?_alloc_at _ _ _ _ hg, List.getElem?_toArray, h]

/-- The cells of the first j actions. -/
def acts (O : Nat → Int) (U : Nat → Bool) : Nat → List Value
  | 0 => []
  | j + 1 => acts O U j ++ act (O j) (U j)
theorem acts_length (O : Nat → Int) (U : Nat → Bool) (j : Nat) : (acts O U j).length = j * 39 := by
  induction j with
  | zero => rfl
  | succ j ih => rw [acts, List.length_append, ih, act_length]; omega
theorem acts_at (O : Nat → Int) (U : Nat → Bool) (n q i : Nat) (hq : q < n) (hi : i < 39) : (acts O U n)[q * 39 + i]? = (act (O q) (U q))[i]? := by
  induction n with
  | zero => omega
  | succ n ih =>
    rw [acts]
    by_cases h : q < n
    · rw [List.getElem?_append_left (by rw [acts_length]; omega)]; exact ih h
    · obtain rfl : q = n := by omega
      rw [List.getElem?_append_right (by rw [acts_length]; omega), acts_length]
      congr 1
      omega

set_option maxRecDepth 100000 in
set_option maxHeartbeats 1600000 in
/-- 'zzs0019abuild'. -/
theorem build_any (a0 : Option Addr) (n cap : Nat) (O : Nat → Int) (U : Nat → Bool) (hn : n ≤ 1024) (w : World) (hO : ∀ q, q < n → 0 ≤ O q ∧ O q ≤ 255)
    (hc : ∀ q, q < n → ∃ b off, a0 = some ⟨b, off, none⟩ ∧ w.cell? ⟨b, off + q * 2, none⟩ = some (.int .u8 (O q)) ∧ w.cell? ⟨b, off + q * 2 + 1, none⟩ = some (.bool (U q))) :
    Calls Yba.prog 5 #[.slice a0 n cap] w fun e w' => ∃ g, e = .returned (.slice (some ⟨g, 0, none⟩) n n) ∧ (∀ q, q < n → w'.rangeAt g (q * 39) (act (O q) (U q))) ∧ Below w.heap.size w w' := by
  obtain ⟨i0, z0, hi, hz0, hz1, hz2⟩ := Yba.zero39
  go_enter Yba.func5, Yba.ntmps5
  go_wp2_with (at_make; refine wpList_make_own _ rfl _ _ 23 rfl w.heap.size 39 i0 z0 39 Yba.underlying23 hi hz0 hz1 .i64 .i64 _ n rfl rfl (by omega) (by rw [hz2]; omega) (by unfold maxLen; omega) (Nat.le_refl _) ?_; intro w1 hown hgrow)
  have hB1 : Below w.heap.size w w1 := (Below.refl _ _).grown hgrow (Nat.le_refl _) (fun k h => by cases h)
  go_loopw [3, 11] (fun v i wr => ∃ j : Nat, j ≤ n ∧ i = .int .i64 j ∧ Below w.heap.size w wr ∧ v = .slice (some ⟨w.heap.size, 0, none⟩) j n ∧ wr.ownsRow w.heap.size 39 39 (.slice (some ⟨w.heap.size, 0, none⟩) j n) j (acts O U j)) (fun _ i _ => n - (intOf i).toNat)
  case atStart => exact ⟨0, Nat.zero_le _, rfl, hB1, rfl, hown⟩
  case round =>
    obtain ⟨j, hj, rfl, hB, rfl, hownr⟩ := hrel
    clear hown hgrow hB1
    by_cases hlt : j < n
    · obtain ⟨b, off, ha, c0, c1⟩ := hc j hlt
      subst ha
      obtain ⟨o0, o1⟩ := hO j hlt
      have d0 : wr.cell? ⟨b, off + j * 2, none⟩ = some (.int .u8 (O j)) := (hB.cell (lt_of_cell c0)).trans c0
      have d1 : wr.cell? ⟨b, off + j * 2 + 1, none⟩ = some (.bool (U j)) := (hB.cell (lt_of_cell c1)).trans c1
      have HA : Hid (acts O U (j + 1) = acts O U j ++ act (O j) (U j)) := rfl
      have hsz := hB.size
      clear hc hO c0 c1
      generalize O j = oj at *
      generalize U j = uj at *
      go_upto_region 6 with (at_builtin; refine wpList_append_fits _ rfl _ _ 23 rfl w.heap.size 39 i0 39 Yba.underlying23 hi hz1 w.heap.size j n (acts O U j) rfl ((hownr.alloc _).alloc _) ⟨wr.heap.size + 1, 0, none⟩ 1 1 (act oj uj) rfl rfl ?c1 (act_one oj uj) (by omega) ?_)
      case c1 => exact fun i u h => news_at _ (act oj uj) 39 _ (by simp) i u h
      intro w2 hown2 hgrow2
      have hB2 : Below w.heap.size w w2 := ((hB.alloc hsz _).alloc (by simp; omega) _).grown hgrow2 (by simp; omega) (fun k h => by cases h; exact Nat.le_refl _)
      rw [← HA.out] at hown2
      clear hownr hgrow2 hB d0 d1
      go_wp2
      go_roundw
      case rel => exact ⟨j + 1, by omega, by go_num, hB2, rfl, hown2⟩
      case measure => simp [intOf]; omega
    · obtain rfl : j = n := by omega
      go_wp2
      go_ret
      refine ⟨w.heap.size, rfl, fun q hq i v hv => ?_, hB⟩
      have hi39 : i < 39 := by
        have := (List.getElem?_eq_some_iff.1 hv).1
        rwa [act_length] at this
      exact (hownr.cellAt (q * 39 + i) (by omega)).trans ((acts_at O U j q i hq hi39).trans hv)
end Go.Proofs.Ybulkjg
