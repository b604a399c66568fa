import Derived.Test.YbulknoBits
namespace Go.Proofs.Ybulkno
open Go.RowKit

theorem blen_le (x : Int) (h0 : 0 ≤ x) (h1 : x < 18446744073709551616) : blen x ≤ 64 := (blen_spec x h0 h1).1

set_option maxRecDepth 100000 in
set_option maxHeartbeats 1600000 in
/-- 'constrained' at a small span. -/
theorem con_small (N X : Nat) (u : World) (S : List Bool) (g c : Nat) (v span : Int) (s0 : 0 ≤ span) (s1 : span < 255) (hl : S.length ≤ 4000) (w : World) (h : WS N X u S g c w) :
    Calls Yba.prog 5 #[.pointer (some ⟨X, 0, none⟩), .int .u64 v, .int .u64 span] w fun e w' => e = .returned (.tuple #[]) ∧ ∃ g' c', WS N X u (S ++ bitsOf v (blen span)) g' c' w' := by
  by_cases hz : span = 0
  · subst hz
    have HW : Hid (WS N X u (S ++ bitsOf v (blen 0)) g c w) := by
      show WS N X u (S ++ bitsOf v 0) g c w
      rw [bitsOf, List.append_nil]; exact h
    clear h
    go_enter Yba.func5, Yba.ntmps5
    go_wp2_with fail
    go_end0
    exact ⟨rfl, g, c, HW.out⟩
  · have HW : Hid _ := h
    have hb := blen_le span s0 (by omega)
    clear h
    go_enter Yba.func5, Yba.ntmps5
    go_wp2_with fail
    refine (len64_b span s0 (by omega) w).mono ?_
    rintro e w1 ⟨rfl, rfl⟩
    go_wp2_with fail
    refine (bits_any N X u S g c v (blen span) hb hl _ HW.out).mono ?_
    rintro e w2 ⟨rfl, hW2⟩
    have H2 : Hid _ := hW2
    clear hW2 HW
    go_wp2_with fail
    go_end0
    exact ⟨rfl, H2.out⟩

/-- The field of X.691 11.5.7. -/
def field (S : List Bool) (v span : Int) : List Bool :=
  if span = 0 then S
  else if span < 255 then S ++ bitsOf v (blen span)
  else if span = 255 then padL S ++ bitsOf v 8
  else if span < 65536 then padL S ++ bitsOf v 16
  else padL (S ++ bitsOf ((olen v : Int) - 1) (blen ((olen span : Int) - 1))) ++ bitsOf v (8 * olen v)

theorem pad_le (S : List Bool) : (padL S).length ≤ S.length + 7 := by rw [padL_length]; unfold nb; omega

set_option maxRecDepth 100000 in
set_option maxHeartbeats 1600000 in
/-- 'constrained'. -/
theorem con_any (N X : Nat) (u : World) (S : List Bool) (g c : Nat) (v span : Int) (v0 : 0 ≤ v) (v1 : v < 18446744073709551616) (s0 : 0 ≤ span) (s1 : span < 18446744073709551616) (hl : S.length ≤ 2000) (w : World) (h : WS N X u S g c w) :
    Calls Yba.prog 5 #[.pointer (some ⟨X, 0, none⟩), .int .u64 v, .int .u64 span] w fun e w' => e = .returned (.tuple #[]) ∧ ∃ g' c', WS N X u (field S v span) g' c' w' := by
  unfold field
  by_cases e0 : span = 0
  · subst e0
    rw [if_pos rfl]
    have HW : Hid _ := h
    clear h
    go_enter Yba.func5, Yba.ntmps5
    go_wp2_with fail
    go_end0
    exact ⟨rfl, g, c, HW.out⟩
  rw [if_neg e0]
  by_cases e1 : span < 255
  · rw [if_pos e1]; exact con_small N X u S g c v span s0 e1 (by omega) w h
  rw [if_neg e1]
  have hpl := pad_le S
  by_cases e2 : span = 255
  · subst e2
    rw [if_pos rfl]
    have HW : Hid _ := h
    clear h
    go_enter Yba.func5, Yba.ntmps5
    go_wp2_with fail
    refine (align_any N X u S g c w HW.out).mono ?_
    rintro e w1 ⟨rfl, hW1⟩
    have H1 : Hid _ := hW1
    clear hW1 HW
    go_wp2_with fail
    refine (bits_any N X u (padL S) g c v 8 (by omega) (by omega) _ H1.out).mono ?_
    rintro e w2 ⟨rfl, hW2⟩
    have H2 : Hid _ := hW2
    clear hW2 H1
    go_wp2_with fail
    go_end0
    exact ⟨rfl, H2.out⟩
  rw [if_neg e2]
  by_cases e3 : span < 65536
  · rw [if_pos e3]
    have HW : Hid _ := h
    clear h
    go_enter Yba.func5, Yba.ntmps5
    go_wp2_with fail
    refine (align_any N X u S g c w HW.out).mono ?_
    rintro e w1 ⟨rfl, hW1⟩
    have H1 : Hid _ := hW1
    clear hW1 HW
    go_wp2_with fail
    refine (bits_any N X u (padL S) g c v 16 (by omega) (by omega) _ H1.out).mono ?_
    rintro e w2 ⟨rfl, hW2⟩
    have H2 : Hid _ := hW2
    clear hW2 H1
    go_wp2_with fail
    go_end0
    exact ⟨rfl, H2.out⟩
  rw [if_neg e3]
  have HW : Hid _ := h
  clear h
  have hov := olen_bounds v v0 v1
  have hos := olen_bounds span s0 s1
  have hbl := blen_le ((olen span : Int) - 1) (by omega) (by omega)
  have hpl2 := pad_le (S ++ bitsOf ((olen v : Int) - 1) (blen ((olen span : Int) - 1)))
  rw [List.length_append, bitsOf_length] at hpl2
  go_enter Yba.func5, Yba.ntmps5
  go_wp2_with fail
  refine (octetLen_any v v0 v1 w).mono ?_
  rintro e w1 ⟨rfl, rfl⟩
  go_wp2_with fail
  refine (octetLen_any span s0 s1 w1).mono ?_
  rintro e w2 ⟨rfl, rfl⟩
  generalize hk : olen v = k at *
  generalize hm : olen span = m at *
  have HK : Hid _ := hk
  have HM : Hid _ := hm
  clear hk hm
  go_wp2_with fail
  refine (con_small N X u S g c ((k : Int) - 1) ((m : Int) - 1) (by omega) (by omega) (by omega) _ HW.out).mono ?_
  rintro e w3 ⟨rfl, g3, c3, hW3⟩
  have H3 : Hid _ := hW3
  clear hW3 HW
  go_wp2_with fail
  refine (align_any N X u _ g3 c3 w3 H3.out).mono ?_
  rintro e w4 ⟨rfl, hW4⟩
  have H4 : Hid _ := hW4
  clear hW4 H3
  go_wp2_with fail
  rw [show (8 : Int) * (k : Int) = ((8 * k : Nat) : Int) by omega]
  refine (bits_any N X u _ g3 c3 v (8 * k) (by omega) (by omega) _ H4.out).mono ?_
  rintro e w5 ⟨rfl, hW5⟩
  have H5 : Hid _ := hW5
  clear hW5 H4
  go_wp2_with fail
  go_end0
  refine ⟨rfl, ?_⟩
  rw [HK.out, HM.out]
  exact H5.out
end Go.Proofs.Ybulkno
