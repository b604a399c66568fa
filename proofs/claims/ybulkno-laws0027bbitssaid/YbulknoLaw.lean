import Derived.Test.YbulknoCon
import Derived.Laws.CopyOwn
namespace Go.Proofs.Ybulkno
open Go.RowKit

/-- The span, as the law maps it. -/
def mapped (span kind : Int) : Int :=
  if kind % 5 = 1 then span % 255 else if kind % 5 = 2 then 255 else if kind % 5 = 3 then 256 + span % 65280 else if kind % 5 = 4 then (if span < 65536 then span + 65536 else span) else span
theorem mapped_bounds (span kind : Int) (p0 : 0 ≤ span) (p1 : span < 18446744073709551616) : 0 ≤ mapped span kind ∧ mapped span kind < 18446744073709551616 := by
  unfold mapped; split
  · omega
  split
  · omega
  split
  · omega
  split
  · split <;> omega
  · omega

theorem ws_new {w w1 : World} {s : List Bool} (h : PS w s s.length w1) : WS w.heap.size w1.heap.size w s w.heap.size (nb s) (w1.alloc (.cells #[.slice (some ⟨w.heap.size, 0, none⟩) (nb s) (nb s), .int .u64 ((s.length : Int) % 8)] 29)) := by
  have hl := h.below.size
  have hg := (h.own.lt w.heap.size rfl).2
  have ho := h.own
  rw [List.take_length] at ho
  refine ⟨h.below.alloc hl _, ?_, ?_, World.frozen?_alloc_at _ _ _ _ rfl, World.frozen?_alloc_at _ _ _ _ rfl, ho.alloc _, by omega, hl⟩
  · rw [World.cell?_alloc_new]; rfl
  · rw [World.cell?_alloc_new]
    show some (Value.int .u64 ((s.length : Int) % 8)) = _
    rw [show ((s.length : Int) % 8) = ((s.length % 8 : Nat) : Int) by omega]
/-- What the law's own slice of bits is, behind make and copy. -/
theorem os_new {M : Nat} {w0 w3 : World} {s : List Bool} (hM : M = w0.heap.size) (hg : w3.heap[M]? = some (.cells (splice (List.replicate (s.length + 160) (.bool false)) 0 (bl s)).toArray 4 (0, 0))) (hb : Below M w0 w3) (hs : s.length ≤ 1024) :
    OS M w3 (.slice (some ⟨M, 0, none⟩) s.length (s.length + 160)) s w3 := by
  have hlb : (bl s).length = s.length := by simp [bl]
  refine ⟨Below.refl _ _, ⟨by simp [bl], .inr ⟨M, s.length + 160, _, rfl, Nat.le_refl _, hg, by omega, by unfold maxLen; omega, by simp [splice, hlb], ?_⟩⟩, by have := hb.size; omega⟩
  simp [splice, hlb]
theorem src_cells {w W : World} {a : Option Addr} {s : List Bool} (h : Src w a s) (hb : Below w.heap.size w W) (hl : 0 < (bl s).length) : ∃ ad, a = some ad ∧ ∀ j v, (bl s)[j]? = some v → W.cell? (ad.add j) = some v := by
  obtain ⟨b, o, rfl, _⟩ := h 0 (by simpa [bl] using hl)
  refine ⟨_, rfl, fun j v hv => ?_⟩
  have hj : j < s.length := by
    have := (List.getElem?_eq_some_iff.1 hv).1
    simpa [bl] using this
  obtain ⟨b', o', e, hc⟩ := h j hj
  simp only [Option.some.injEq, Addr.mk.injEq, and_true] at e
  obtain ⟨rfl, rfl⟩ := e
  have hv2 : v = .bool (s.getD j false) := by
    rw [bl, List.getElem?_map, List.getElem?_eq_getElem hj] at hv
    rw [List.getD_eq_getElem?_getD, List.getElem?_eq_getElem hj]
    exact (Option.some.inj hv).symm
  rw [hv2, show (⟨b, o, none⟩ : Addr).add j = ⟨b, o + j, none⟩ by unfold Addr.add; split <;> simp_all, hb.cell (lt_of_cell hc)]
  exact hc
theorem OS.self {B : Nat} {w wr : World} {v : Value} {s : List Bool} (h : OS B w v s wr) : OS B wr v s wr := ⟨Below.refl _ _, h.own, h.size⟩
theorem OS.next {B : Nat} {w w1 w2 : World} {v v' : Value} {s t : List Bool} (h : OS B w v s w1) (k : OS B w1 v' t w2) : OS B w v' t w2 := ⟨h.below.trans k.below, k.own, k.size⟩
theorem field_le (s : List Bool) (v sp : Int) (v0 : 0 ≤ v) (v1 : v < 18446744073709551616) (m0 : 0 ≤ sp) (m1 : sp < 18446744073709551616) (hs : s.length ≤ 1024) : (field s v sp).length ≤ 1200 := by
  have hov := olen_bounds v v0 v1
  have hos := olen_bounds sp m0 m1
  have hbl := blen_le ((olen sp : Int) - 1) (by omega) (by omega)
  have hbs := blen_le sp m0 m1
  have hpl := pad_le s
  have hpl2 := pad_le (s ++ bitsOf ((olen v : Int) - 1) (blen ((olen sp : Int) - 1)))
  rw [List.length_append, bitsOf_length] at hpl2
  unfold field
  split
  · omega
  split
  · rw [List.length_append, bitsOf_length]; omega
  split
  · rw [List.length_append, bitsOf_length]; omega
  split
  · rw [List.length_append, bitsOf_length]; omega
  · rw [List.length_append, bitsOf_length]; omega
/-- What stands when the two buffers are compared. -/
structure Fin6 (w : World) (X g cg W : Nat) (S : List Bool) (wr : World) : Prop where
  below : Below w.heap.size w wr
  buf : wr.cell? ⟨X, 0, none⟩ = some (.slice (some ⟨g, 0, none⟩) (nb S) cg)
  used : wr.cell? ⟨X, 1, none⟩ = some (.int .u64 (S.length % 8 : Nat))
  b : ∀ j, j < nb S → wr.cell? ⟨g, j, none⟩ = some (.int .u8 (byteOf S j))
  c : ∀ j, j < nb S → wr.cell? ⟨W, j, none⟩ = some (.int .u8 (byteOf S j))
theorem Fin6.drew {w : World} {X g cg W : Nat} {S : List Bool} {wr : World} (h : Fin6 w X g cg W S wr) : Fin6 w X g cg W S wr.drew := ⟨h.below.drew, h.buf, h.used, h.b, h.c⟩
theorem fin_any {w w2 w3 w5 w6 : World} {X g cg M : Nat} {S : List Bool} {v5 : Value} (hV : WS w.heap.size X w S g cg w2) (hM : w2.heap.size = M) (hB : Below M w2 w3) (hO : OS M w3 v5 S w5) (hP : PS w5 S S.length w6) : Fin6 w X g cg w5.heap.size S w6 := by
  subst hM
  have b6 : Below w2.heap.size w2 w6 := (hB.trans hO.below).trans (hP.below.mono hO.size)
  have hX : X < w2.heap.size := lt_of_cell hV.buf
  have hg : g < w2.heap.size := (hV.own.lt g rfl).2
  have ho := hP.own
  rw [List.take_length] at ho
  refine ⟨hV.below.trans (b6.mono hV.below.size), (b6.cell hX).trans hV.buf, (b6.cell hX).trans hV.used, fun j hj => ?_, fun j hj => ?_⟩
  · exact (b6.cell hg).trans ((hV.own.cellAt j (by omega)).trans (arr_at _ _ _ hj))
  · exact (ho.cellAt j (by omega)).trans (arr_at _ _ _ hj)
theorem src_of_own {w : World} {B n c : Nat} {a : Option Addr} {s : List Bool} (h : w.ownsRow B 4 1 (.slice a n c) s.length (bl s)) : Src w a s := fun j hj => by
  rcases h.2 with ⟨h1, h2⟩ | ⟨g, cap, cur, h1, _⟩
  · omega
  · simp only [Value.slice.injEq] at h1
    obtain ⟨rfl, rfl, rfl⟩ := h1
    refine ⟨g, 0, rfl, ?_⟩
    rw [Nat.zero_add, h.cellAt j (by omega), bl, List.getElem?_map, List.getElem?_eq_getElem hj, List.getD_eq_getElem?_getD, List.getElem?_eq_getElem hj]
    rfl

set_option maxRecDepth 100000 in
set_option maxHeartbeats 1600000 in
theorem law_walk (a : Option Addr) (c : Nat) (s : List Bool) (v span kind : Int) (hs : s.length ≤ 1024) (v0 : 0 ≤ v) (v1 : v < 18446744073709551616) (p0 : 0 ≤ span) (p1 : span < 18446744073709551616) (k0 : 0 ≤ kind) (k1 : kind ≤ 255) (w : World) (hsrc : Src w a s) :
    Calls Yba.prog 3 #[.slice a s.length c, .int .u64 v, .int .u64 span, .int .u8 kind] w fun e w' => e = .returned (.bool true) ∧ Below w.heap.size w w' := by
  go_enter Yba.func3, Yba.ntmps3
  go_upto_region 3 with fail
  go_cut [19] (fun s19 wc => s19 = .int .u8 (kind % 5) ∧ wc = w)
  case first =>
    go_wp2_with fail
    go_meet
    case rel => exact ⟨rfl, rfl⟩
  case rest =>
    obtain ⟨rfl, hwc⟩ := hcut
    obtain rfl := hwc.symm
    go_step
    go_cut [2, 19] (fun s2 _ wd => s2 = .int .u64 (mapped span kind) ∧ wd = w)
    case first =>
      by_cases e1 : kind % 5 = 1
      · have HM : Hid (mapped span kind = span % 255) := if_pos e1
        go_wp2_with fail
        go_meet
        case rel => exact ⟨by rw [HM.out], rfl⟩
      by_cases e2 : kind % 5 = 2
      · have HM : Hid (mapped span kind = 255) := by show mapped span kind = _; unfold mapped; rw [if_neg e1, if_pos e2]
        go_wp2_with fail
        go_meet
        case rel => exact ⟨by rw [HM.out], rfl⟩
      by_cases e3 : kind % 5 = 3
      · have HM : Hid (mapped span kind = 256 + span % 65280) := by show mapped span kind = _; unfold mapped; rw [if_neg e1, if_neg e2, if_pos e3]
        go_wp2_with fail
        go_meet
        case rel => exact ⟨by rw [HM.out], rfl⟩
      by_cases e4 : kind % 5 = 4
      · by_cases e5 : span < 65536
        · have HM : Hid (mapped span kind = span + 65536) := by show mapped span kind = _; unfold mapped; rw [if_neg e1, if_neg e2, if_neg e3, if_pos e4, if_pos e5]
          go_wp2_with fail
          go_meet
          case rel => exact ⟨by rw [HM.out], rfl⟩
        · have HM : Hid (mapped span kind = span) := by show mapped span kind = _; unfold mapped; rw [if_neg e1, if_neg e2, if_neg e3, if_pos e4, if_neg e5]
          go_wp2_with fail
          go_meet
          case rel => exact ⟨by rw [HM.out], rfl⟩
      · have HM : Hid (mapped span kind = span) := by show mapped span kind = _; unfold mapped; rw [if_neg e1, if_neg e2, if_neg e3, if_neg e4]
        go_wp2_with fail
        go_meet
        case rel => exact ⟨by rw [HM.out], rfl⟩
    case rest =>
      obtain ⟨rfl, hwc⟩ := hcut
      obtain rfl := hwc.symm
      obtain ⟨m0, m1⟩ := mapped_bounds span kind p0 p1
      generalize mapped span kind = sp at *
      go_wp2_with fail
      refine (pack_any a c s w (by omega) hsrc).mono ?_
      rintro e w1 ⟨rfl, hP⟩
      have HW : Hid _ := ws_new hP
      have hX : w1.heap.size < (w1.alloc (.cells #[.slice (some ⟨w.heap.size, 0, none⟩) (nb s) (nb s), .int .u64 ((s.length : Int) % 8)] 29)).heap.size := by simp
      clear hP
      go_wp2_with fail
      generalize w1.heap.size = X at *
      refine (con_any w.heap.size X w s w.heap.size (nb s) v sp v0 v1 m0 m1 (by omega) _ HW.out).mono ?_
      rintro e w2 ⟨rfl, g, cg, hW⟩
      have HV : Hid _ := hW
      clear HW hX hW
      obtain ⟨i0, hi, hz0, hz1, hz2⟩ := Yba.zero4
      have hmk : (Instr.makeSlice 22 (.int .i64 (s.length : Int)) (.int .i64 ((s.length : Int) + 160))).run Yba.prog w2 = .ok (.slice (some ⟨w2.heap.size, 0, none⟩) s.length (s.length + 160)) (w2.alloc (.cells (List.replicate (s.length + 160) (.bool false)).toArray 4)) := by
        have h := run_make (P := Yba.prog) w2 22 4 i0 (.bool false) Yba.underlying22 hi hz0 .i64 .i64 (s.length : Int) ((s.length : Int) + 160) (by omega) (by omega) (by rw [hz2]; omega) (by omega)
        rw [h]
        have e1 : ((s.length : Int) + 160).toNat = s.length + 160 := by omega
        have e2 : madeCells (Value.bool false).cells ((s.length + 160) * 1) = (List.replicate (s.length + 160) (.bool false)).toArray := by
          apply Array.toList_inj.1
          rw [Nat.mul_one]
          exact (toList_madeCells_one _ _).trans (by simp)
        rw [e1, hz1, e2]
        rfl
      generalize hcur : List.replicate (s.length + 160) (Value.bool false) = cur at *
      have HC : Hid _ := hcur
      clear hcur
      have hcl : cur.length = s.length + 160 := by rw [← HC.out]; simp
      have hbn : Below w.heap.size w (w2.alloc (.cells cur.toArray 4)) := HV.out.below.alloc HV.out.below.size _
      have hb2 : Below w2.heap.size w2 (w2.alloc (.cells cur.toArray 4)) := (Below.refl _ _).alloc (Nat.le_refl _) _
      have hbll : (bl s).length = s.length := by simp [bl]
      have hnew : (w2.alloc (.cells cur.toArray 4)).heap[w2.heap.size]? = some (.cells cur.toArray 4 (0, 0)) := heap_alloc_new w2 _
      have hsz4 : (Yba.prog.info? 4).map (·.size) = some 1 := by rw [hi]; simp [hz1]
      have hone : ∀ x ∈ bl s, x.oneCell' = true := fun x hx => by
        simp only [bl, List.mem_map] at hx
        obtain ⟨y, _, rfl⟩ := hx
        rfl
      go_upto_region 16 with fail
      go_cut [55, 56, 57] (fun _ _ _ w3 => OS w2.heap.size w3 (.slice (some ⟨w2.heap.size, 0, none⟩) s.length (s.length + 160)) s w3 ∧ Below w2.heap.size w2 w3)
      case first =>
        go_wp2_with (refine wpList_copy_splice rfl (.tmp 55) (.tmp 56) 22 22 rfl 4 Yba.underlying22 hsz4 _ _ _ _ _ _ rfl rfl w2.heap.size 0 cur 4 hnew (bl s) (by rw [hbll]; exact (Nat.min_self _).symm) (fun h => ⟨rfl, src_cells hsrc hbn h⟩) (by rw [hbll, hcl]; omega) hone w2.heap.size w2 hb2 (Nat.le_refl _) ?_; intro w3 hg3 hb3)
        go_meet
        case rel =>
          have hg3' := hg3.out
          rw [← HC.out] at hg3'
          exact ⟨os_new rfl hg3' hb3 hs, hb3⟩
      case rest =>
        obtain ⟨hO, hb3⟩ := hcut
        have HO : Hid _ := hO
        have HB3 : Hid _ := hb3
        clear hO hb3 hmk hnew hb2 hbn hcl hone hsz4 hbll HC hi hz0 hz1 hz2
        generalize hM : w2.heap.size = M at *
        have HMM : Hid _ := hM
        clear hM
        generalize wc = w3 at *
        have hpl := pad_le s
        go_step
        refine wp_seq_k fun Kx hKx => ?_
        go_cut [2, 10, 11, 12] (fun _ s10 _ _ wd => OS M w3 s10 (field s v sp) wd)
        case first =>
          by_cases e0 : sp = 0
          · have HF : Hid (field s v sp = s) := if_pos e0
            go_wp2_with fail
            go_meet
            case rel => rw [HF.out]; exact HO.out
          by_cases e1 : sp < 255
          · have HF : Hid (field s v sp = s ++ bitsOf v (blen sp)) := by show field s v sp = _; unfold field; rw [if_neg e0, if_pos e1]
            have hbl := blen_le sp m0 m1
            go_wp2_with fail
            refine (width_any sp m0 m1 _).mono ?_
            rintro e w4 ⟨rfl, rfl⟩
            go_wp2_with fail
            refine (put_any M _ s v (blen sp) v0 v1 hbl (by omega) _ HO.out).mono ?_
            rintro e w5 ⟨v5, rfl, hO5⟩
            have H5 : Hid _ := hO5
            clear hO5
            go_wp2_with fail
            go_meet
            case rel => rw [HF.out]; exact H5.out
          by_cases e2 : sp = 255
          · have HF : Hid (field s v sp = padL s ++ bitsOf v 8) := by show field s v sp = _; unfold field; rw [if_neg e0, if_neg e1, if_pos e2]
            go_wp2_with fail
            refine (pad_any M _ s (by omega) _ HO.out).mono ?_
            rintro e w4 ⟨v4, rfl, hO4⟩
            have H4 : Hid _ := hO4
            clear hO4
            go_wp2_with fail
            refine (put_any M _ (padL s) v 8 v0 v1 (by omega) (by omega) _ H4.out.self).mono ?_
            rintro e w5 ⟨v5, rfl, hO5⟩
            have H5 : Hid _ := H4.out.next hO5
            clear hO5 H4
            go_wp2_with fail
            go_meet
            case rel => rw [HF.out]; exact H5.out
          by_cases e3 : sp < 65536
          · have HF : Hid (field s v sp = padL s ++ bitsOf v 16) := by show field s v sp = _; unfold field; rw [if_neg e0, if_neg e1, if_neg e2, if_pos e3]
            go_wp2_with fail
            refine (pad_any M _ s (by omega) _ HO.out).mono ?_
            rintro e w4 ⟨v4, rfl, hO4⟩
            have H4 : Hid _ := hO4
            clear hO4
            go_wp2_with fail
            refine (put_any M _ (padL s) v 16 v0 v1 (by omega) (by omega) _ H4.out.self).mono ?_
            rintro e w5 ⟨v5, rfl, hO5⟩
            have H5 : Hid _ := H4.out.next hO5
            clear hO5 H4
            go_wp2_with fail
            go_meet
            case rel => rw [HF.out]; exact H5.out
          have HF : Hid (field s v sp = padL (s ++ bitsOf ((olen v : Int) - 1) (blen ((olen sp : Int) - 1))) ++ bitsOf v (8 * olen v)) := by show field s v sp = _; unfold field; rw [if_neg e0, if_neg e1, if_neg e2, if_neg e3]
          have hov := olen_bounds v v0 v1
          have hos := olen_bounds sp m0 m1
          have hbl := blen_le ((olen sp : Int) - 1) (by omega) (by omega)
          have hpl2 := pad_le (s ++ bitsOf ((olen v : Int) - 1) (blen ((olen sp : Int) - 1)))
          rw [List.length_append, bitsOf_length] at hpl2
          go_wp2_with fail
          refine (oct_any v v0 v1 _).mono ?_
          rintro e w4 ⟨rfl, rfl⟩
          go_wp2_with fail
          refine (oct_any sp m0 m1 _).mono ?_
          rintro e w5 ⟨rfl, rfl⟩
          generalize olen v = k at *
          generalize olen sp = m at *
          go_wp2_with fail
          refine (width_any ((m : Int) - 1) (by omega) (by omega) _).mono ?_
          rintro e w6 ⟨rfl, rfl⟩
          go_wp2_with fail
          refine (put_any M _ s ((k : Int) - 1) (blen ((m : Int) - 1)) (by omega) (by omega) hbl (by omega) _ HO.out).mono ?_
          rintro e w7 ⟨v7, rfl, hO7⟩
          have H7 : Hid _ := hO7
          clear hO7
          go_wp2_with fail
          refine (pad_any M _ _ (by rw [List.length_append, bitsOf_length]; omega) _ H7.out.self).mono ?_
          rintro e w8 ⟨v8, rfl, hO8⟩
          have H8 : Hid _ := H7.out.next hO8
          clear hO8 H7
          go_wp2_with fail
          rw [show (8 : Int) * (k : Int) = ((8 * k : Nat) : Int) by omega]
          refine (put_any M _ _ v (8 * k) v0 v1 (by omega) (by omega) _ H8.out.self).mono ?_
          rintro e w9 ⟨v9, rfl, hO9⟩
          have H9 : Hid _ := H8.out.next hO9
          clear hO9 H8
          go_wp2_with fail
          go_meet
          case rel => rw [HF.out]; exact H9.out
        case rest =>
          have hO5 : OS M w3 u10 (field s v sp) wc := hcut
          have hfl : (field s v sp).length ≤ 1200 := field_le s v sp v0 v1 m0 m1 hs
          obtain ⟨a5, c5, rfl⟩ := own_shape hO5.own
          have hsrc5 := src_of_own hO5.own
          have HO5 : Hid _ := hO5
          clear hO5 hcut
          generalize field s v sp = S at *
          generalize wc = w5 at *
          go_wp2_with fail
          refine (pack_any a5 c5 S w5 (by omega) hsrc5).mono ?_
          rintro e w6 ⟨rfl, hP6⟩
          have HF : Hid _ := fin_any HV.out HMM.out HB3.out HO5.out hP6
          have a1 := HF.out.buf
          have a2 := HF.out.used
          have hnb : (nb S : Int) ≤ 200 := by unfold nb; omega
          have hnb0 : (0 : Int) ≤ (nb S : Int) := by omega
          rw [show ((S.length % 8 : Nat) : Int) = (S.length : Int) % 8 by omega] at a2
          clear hP6 HO5 hsrc5 HB3 HV HMM HO hpl
          generalize w5.heap.size = W at *
          go_wp2_with fail
          clear a1 a2
          go_loopw [14] (fun t wx => ∃ i : Nat, i ≤ nb S ∧ t = .int .i64 i ∧ Fin6 w X g cg W S wx) (fun t _ => nb S - (intOf t).toNat)
          case atStart => exact ⟨0, Nat.zero_le _, rfl, HF.out⟩
          case round =>
            clear HF
            obtain ⟨i, hile, rfl, hL⟩ := hrel
            by_cases hlt : i < nb S
            · have HS : Hid _ := hL.drew
              have a1 := hL.buf
              have a2 := hL.b i hlt
              have a3 := hL.c i hlt
              clear hL
              generalize byteOf S i = y at *
              have b1 : (i : Int) < (nb S : Int) := by omega
              have b2 : (0 : Int) ≤ (i : Int) := by omega
              go_wp2_with fail
              go_region_held3 (fun w' => w'.cell? ⟨X, 0, none⟩ = some (.slice (some ⟨g, 0, none⟩) (nb S) cg) ∧ w'.cell? ⟨g, i, none⟩ = some (.int .u8 y) ∧ w'.cell? ⟨W, i, none⟩ = some (.int .u8 y)) (go_keep) (fail)
              clear a1 a2 a3
              go_wp2_with fail
              go_roundw
              case rel => exact ⟨i + 1, by omega, by go_num, HS.out⟩
              case measure => simp [intOf]; omega
            · obtain rfl : i = nb S := by omega
              have H5 : Hid _ := hL.below
              clear hL
              go_wp2_with fail
              go_ret
              exact ⟨rfl, H5.out⟩

set_option maxRecDepth 100000 in
/-- .. and more bits ahead: true at once. -/
theorem law_long (a : Option Addr) (c n : Nat) (v span kind : Int) (hn : ¬ n ≤ 1024) (w : World) :
    Calls Yba.prog 3 #[.slice a n c, .int .u64 v, .int .u64 span, .int .u8 kind] w fun e w' => e = .returned (.bool true) ∧ Below w.heap.size w w' := by
  have b1 : ¬ ((n : Int) ≤ 1024) := by omega
  have b2 : (1024 : Int) < (n : Int) := by omega
  go_enter Yba.func3, Yba.ntmps3
  go_wp2_with fail
  go_ret
  exact ⟨rfl, Below.refl _ _⟩
end Go.Proofs.Ybulkno
