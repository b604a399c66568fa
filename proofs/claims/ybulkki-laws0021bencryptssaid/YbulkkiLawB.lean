import Derived.Test.YbulkkiCipher
namespace Go.Proofs.Ybulkki
open Go.RowKit

theorem range_new (w : World) (n : Nat) (C : Nat → Int) (t : TypeId) : (w.alloc (.cells (arr n C).toArray t)).rangeAt w.heap.size 0 (arr n C) := arr_range fun j hj => by
  rw [World.cell?_alloc_new, List.getElem?_toArray, arr_at _ _ _ hj]
theorem range_alloc {w : World} {b o : Nat} {vs : List Value} (h : w.rangeAt b o vs) (hb : b < w.heap.size) (x : Obj) : (w.alloc x).rangeAt b o vs := fun j v hv => by
  rw [World.cell?_alloc_past _ _ _ hb]; exact h j v hv
theorem range_setCells {w : World} {b o b' o' : Nat} {vs us : List Value} (h : w.rangeAt b o vs) (hb : b ≠ b') : (w.setCells b' o' us).rangeAt b o vs := fun j v hv => by
  rw [World.cell?_setCells_out _ _ _ _ _ (fun e _ => absurd e hb)]; exact h j v hv
theorem setCells_size (b : Nat) : ∀ (vs : List Value) (o : Nat) (w : World), (w.setCells b o vs).heap.size = w.heap.size
  | [], _, _ => rfl
  | v :: vs, o, w => (setCells_size b vs (o + 1) _).trans (by simp [World.setCell])

/-- The block's nineteen cells. -/
def blk (K : Nat → Int) : List Value := arr 16 K ++ [.int .i64 0, .int .i64 0, .int .i64 0]
theorem build33 (K : Nat → Int) : List.foldl (fun (cs : Array Value) (x : Value × Nat) => cs.setIfInBounds x.snd x.fst)
    (#[.int .u8 0, .int .u8 0, .int .u8 0, .int .u8 0, .int .u8 0, .int .u8 0, .int .u8 0, .int .u8 0, .int .u8 0, .int .u8 0, .int .u8 0, .int .u8 0, .int .u8 0, .int .u8 0, .int .u8 0, .int .u8 0, .int .i64 0, .int .i64 0, .int .i64 0] : Array Value)
    (arr 16 K).zipIdx = (blk K).toArray := by kernel_rfl

/-- What stands when 'encrypt' is called. -/
structure Pre (w : World) (K : Nat → Int) (w2 : World) : Prop where
  below : Below w.heap.size w w2
  size : w2.heap.size = w.heap.size + 1 + 1 + 1
  key : w2.rangeAt w.heap.size 0 (arr 16 K)
  there : w2.there (w.heap.size + 1 + 1) 0 16

theorem pre_any (w : World) (K J : Nat → Int) : Pre w K ((((w.alloc (.cells (arr 16 K).toArray 23)).alloc (.cells (arr 16 J).toArray 23)).alloc (.cells (arr 16 fun _ => 0).toArray 23)).setCells (w.heap.size + 1 + 1) 0 (arr 16 J)) := by
  have bel : Below w.heap.size w (((w.alloc (.cells (arr 16 K).toArray 23)).alloc (.cells (arr 16 J).toArray 23)).alloc (.cells (arr 16 fun _ => 0).toArray 23)) := (((Below.refl _ _).alloc (Nat.le_refl _) _).alloc (by simp) _).alloc (by simp <;> omega) _
  have tG := there_new ((w.alloc (.cells (arr 16 K).toArray 23)).alloc (.cells (arr 16 J).toArray 23)) 16 (fun _ => 0) 23
  rw [World.size_alloc, World.size_alloc] at tG
  refine ⟨setCells_below _ _ (by omega) _ _ _ _ bel, ?_, range_setCells (range_alloc (range_alloc (range_new w 16 K 23) (by simp) (.cells (arr 16 J).toArray 23)) (by simp <;> omega) (.cells (arr 16 fun _ => 0).toArray 23)) (by omega), fun j hj => ?_⟩
  · rw [setCells_size]; simp
  · rw [World.frozen?_setCells, World.rangeAt_setCells_same _ _ _ _ (by rw [arr_length]; exact tG) j _ (arr_at 16 J j hj)]
    exact ⟨rfl, (tG j hj).2⟩

/-- What stands behind 'encrypt', to the law's end: M is the result's block. -/
structure Base (w : World) (M : Nat) (K E : Nat → Int) (wr : World) : Prop where
  below : Below w.heap.size w wr
  key : ∀ j, j < 16 → wr.cell? ⟨w.heap.size, j, none⟩ = some (.int .u8 (K j))
  cnt : Cnt (w.heap.size + 1 + 1 + 1) wr
  g : ∀ j, j < 16 → wr.cell? ⟨w.heap.size + 1 + 1, j, none⟩ = some (.int .u8 (E j))
  r0 : wr.cell? ⟨M, 0, none⟩ = some (.int .u64 (word E))
  r1 : wr.cell? ⟨M, 1, none⟩ = some (.int .u64 (word fun j => E (j + 8)))
  hM : w.heap.size + 1 + 1 + 1 < M
theorem Base.drew {w : World} {M : Nat} {K E : Nat → Int} {wr : World} (h : Base w M K E wr) : Base w M K E wr.drew := ⟨h.below.drew, h.key, ⟨h.cnt.c, h.cnt.d, h.cnt.s⟩, h.g, h.r0, h.r1, h.hM⟩
theorem Base.keep {w : World} {M : Nat} {K E : Nat → Int} {wr wx : World} (h : Base w M K E wr) (hb : Below (M + 1) wr wx) : Base w M K E wx :=
  have hM := h.hM
  ⟨h.below.trans (hb.mono (by omega)), fun j hj => (hb.cell (by simp only; omega)).trans (h.key j hj), ⟨(hb.cell (by simp only; omega)).trans h.cnt.c, (hb.cell (by simp only; omega)).trans h.cnt.d, (hb.cell (by simp only; omega)).trans h.cnt.s⟩, fun j hj => (hb.cell (by simp only; omega)).trans (h.g j hj), (hb.cell (by simp only; omega)).trans h.r0, (hb.cell (by simp only; omega)).trans h.r1, hM⟩
theorem Base.set {w : World} {M : Nat} {K E : Nat → Int} {wr : World} (h : Base w M K E wr) {p : Addr} (hp : M < p.block) (v : Value) : Base w M K E (wr.setCell p v) :=
  h.keep ((Below.refl _ _).setCell hp v)
theorem Base.alloc {w : World} {M : Nat} {K E : Nat → Int} {wr : World} (h : Base w M K E wr) (o : Obj) : Base w M K E (wr.alloc o) :=
  h.keep ((Below.refl _ _).alloc (by have := lt_of_cell h.r0; simp only at this; omega) o)

theorem base_any {w w2 w3 : World} {K E : Nat → Int} (c : List Value) (hp : Pre w K w2)
    (he : Encd w2.heap.size (w.heap.size + 1 + 1) E ((w2.alloc (.cells (blk K).toArray 33)).alloc (.cells c.toArray 37)) w3) :
    Base w w3.heap.size K E (w3.alloc (.cells #[.int .u64 (word E), .int .u64 (word fun j => E (j + 8))] 25)) := by
  have hs := hp.size
  have hsz : ((w2.alloc (.cells (blk K).toArray 33)).alloc (.cells c.toArray 37)).heap.size = w.heap.size + 1 + 1 + 1 + 1 + 1 := by simp [hs]
  have h3 := he.two.size
  have bel : Below w2.heap.size w2 ((w2.alloc (.cells (blk K).toArray 33)).alloc (.cells c.toArray 37)) := ((Below.refl _ _).alloc (Nat.le_refl _) _).alloc (by simp) _
  have b2 : Below w.heap.size w2 w3 := ⟨he.two.os.trans bel.os, he.two.tape.trans bel.tape, he.two.output.trans bel.output, Nat.le_trans bel.size h3, fun k hk => (he.two.block k (by omega) (by omega) (by omega)).trans (bel.block k (by omega))⟩
  have nw : Below w3.heap.size w3 (w3.alloc (.cells #[.int .u64 (word E), .int .u64 (word fun j => E (j + 8))] 25)) := (Below.refl _ _).alloc (Nat.le_refl _) _
  have hN := he.two.block w.heap.size (by omega) (by omega) (by omega)
  refine ⟨(hp.below.trans b2).alloc (by omega) _, fun j hj => ?_, ⟨(nw.cell (by simp only; omega)).trans (hs ▸ he.cnt.c), (nw.cell (by simp only; omega)).trans (hs ▸ he.cnt.d), (nw.cell (by simp only; omega)).trans (hs ▸ he.cnt.s)⟩, fun j hj => (nw.cell (by simp only; omega)).trans (he.g j hj), ?_, ?_, by omega⟩
  · rw [nw.cell (by simp only; omega), World.cell?_of_block (a := ⟨w.heap.size, j, none⟩) hN, bel.cell (by simp only; omega)]
    have := hp.key j _ (arr_at 16 K j hj)
    simpa using this
  · rw [World.cell?_alloc_new]; rfl
  · rw [World.cell?_alloc_new]; rfl

theorem blk_key (K : Nat → Int) (j : Nat) (hj : j < 16) : (blk K)[j]? = some (.int .u8 (K j)) := by
  unfold blk
  rw [List.getElem?_append_left (by rw [arr_length]; exact hj), arr_at _ _ _ hj]
theorem blk_cnt (K : Nat → Int) (j : Nat) (h0 : 16 ≤ j) (h1 : j < 19) : (blk K)[j]? = some (.int .i64 0) := by
  unfold blk
  rw [List.getElem?_append_right (by rw [arr_length]; exact h0), arr_length]
  obtain rfl | rfl | rfl : j = 16 ∨ j = 17 ∨ j = 18 := by omega
  · rfl
  · rfl
  · rfl

/-- The bytes after i rounds of the first loop. -/
def bto (hi lo : Int) (i j : Nat) : Int := if j < 8 then (if j < i then byt hi j else 0) else (if j - 8 < i then byt lo (j - 8) else 0)
theorem bto_8 (hi lo : Int) (j : Nat) (hj : j < 16) : bto hi lo 8 j = pb hi lo j := by
  unfold bto pb
  by_cases e : j < 8
  · rw [if_pos e, if_pos e, if_pos e]
  · rw [if_neg e, if_neg e, if_pos (by omega)]
theorem bto_0 (hi lo : Int) (j : Nat) : bto hi lo 0 j = 0 := by
  unfold bto; by_cases e : j < 8 <;> simp [e]
structure L1 (w : World) (M : Nat) (K E : Nat → Int) (hi lo : Int) (i : Nat) (wr : World) : Prop where
  base : Base w M K E wr
  b : ∀ j, j < 16 → wr.cell? ⟨M + 1, j, none⟩ = some (.int .u8 (bto hi lo i j))
  z : ∀ j, wr.frozen? ⟨M + 1, j, none⟩ = false
  size : wr.heap.size = M + 1 + 1
theorem L1.step {w : World} {M : Nat} {K E : Nat → Int} {hi lo : Int} {i : Nat} {wr : World} (h : L1 w M K E hi lo i wr) (hi8 : i < 8) :
    L1 w M K E hi lo (i + 1) ((wr.setCell ⟨M + 1, i, none⟩ (.int .u8 (byt hi i))).setCell ⟨M + 1, i + 8, none⟩ (.int .u8 (byt lo i))) := by
  refine ⟨(h.base.set (by simp) _).set (by simp) _, fun j hj => ?_, fun j => ?_, ?_⟩
  · by_cases e : j = i + 8
    · subst e
      have h0 := (World.cell?_setCell_other wr ⟨M + 1, i, none⟩ ⟨M + 1, i + 8, none⟩ (.int .u8 (byt hi i)) (offNe (by omega))).trans (h.b (i + 8) hj)
      rw [World.cell?_setCell_same _ _ _ h0]
      unfold bto
      rw [if_neg (by omega), if_pos (by omega), Nat.add_sub_cancel]
    · rw [World.cell?_setCell_other _ _ _ _ (offNe (Ne.symm e))]
      by_cases e2 : j = i
      · subst e2
        rw [World.cell?_setCell_same _ _ _ (h.b j hj)]
        unfold bto
        rw [if_pos hi8, if_pos (by omega)]
      · rw [World.cell?_setCell_other _ _ _ _ (offNe (Ne.symm e2)), h.b j hj]
        unfold bto
        by_cases e3 : j < 8
        · rw [if_pos e3, if_pos e3]
          by_cases e4 : j < i
          · rw [if_pos e4, if_pos (by omega)]
          · rw [if_neg e4, if_neg (by omega)]
        · rw [if_neg e3, if_neg e3]
          by_cases e4 : j - 8 < i
          · rw [if_pos e4, if_pos (by omega)]
          · rw [if_neg e4, if_neg (by omega)]
  · rw [World.frozen?_setCell, World.frozen?_setCell]; exact h.z j
  · simpa [World.setCell] using h.size
theorem Base.first {w : World} {M : Nat} {K E : Nat → Int} {wr : World} (h : Base w M K E wr) (hs : wr.heap.size = M + 1) (hi lo : Int) : L1 w M K E hi lo 0 (wr.alloc (.cells (arr 16 fun _ => 0).toArray 23)) :=
  ⟨h.alloc _, fun j hj => by rw [World.cell?_alloc_at _ _ _ _ hs.symm, List.getElem?_toArray, arr_at _ _ _ hj, bto_0], fun j => World.frozen?_alloc_at _ _ _ _ hs.symm, by simp [hs]⟩
theorem byt_sh (v : Int) (h0 : 0 ≤ v) (h1 : v < 18446744073709551616) (i : Nat) (hi : i < 8) : v / 2 ^ (56 - 8 * i) % 256 = byt v i := by
  match i, hi with
  | 0, _ => simp [byt]; omega
  | 1, _ => simp [byt]
  | 2, _ => simp [byt]
  | 3, _ => simp [byt]
  | 4, _ => simp [byt]
  | 5, _ => simp [byt]
  | 6, _ => simp [byt]
  | 7, _ => simp [byt]

structure L2 (w : World) (M : Nat) (K P : Nat → Int) (i : Nat) (wr : World) : Prop where
  base : Base w M K (enc K P) wr
  b : ∀ j, j < 16 → wr.cell? ⟨M + 1, j, none⟩ = some (.int .u8 (P j))
  t : ∀ j, j < 16 → wr.cell? ⟨M + 1 + 1, j, none⟩ = some (.int .u8 (if j < i then enc K P j else 0))
  z : ∀ j, wr.frozen? ⟨M + 1 + 1, j, none⟩ = false
theorem L2.step {w : World} {M : Nat} {K P : Nat → Int} {i : Nat} {wr : World} (h : L2 w M K P i wr) :
    L2 w M K P (i + 1) (wr.setCell ⟨M + 1 + 1, i, none⟩ (.int .u8 (x8 (P ((i + 1) % 16)) (K i)))).drew := by
  refine ⟨(h.base.set (by simp; omega) _).drew, fun j hj => ?_, fun j hj => ?_, fun j => ?_⟩
  · rw [World.cell?_drew, World.cell?_setCell_other _ _ _ _ (blockNe (by omega))]; exact h.b j hj
  · rw [World.cell?_drew]
    by_cases e : j = i
    · subst e
      rw [World.cell?_setCell_same _ _ _ (h.t _ hj), if_pos (by omega), enc]
    · rw [World.cell?_setCell_other _ _ _ _ (offNe (Ne.symm e)), h.t j hj]
      by_cases e2 : j < i
      · rw [if_pos e2, if_pos (by omega)]
      · rw [if_neg e2, if_neg (by omega)]
  · rw [World.frozen?_drew, World.frozen?_setCell]; exact h.z j
theorem L1.next {w : World} {M : Nat} {K : Nat → Int} {hi lo : Int} {wr : World} (h : L1 w M K (enc K (pb hi lo)) hi lo 8 wr) : L2 w M K (pb hi lo) 0 (wr.alloc (.cells (arr 16 fun _ => 0).toArray 23)) :=
  have hb : Below wr.heap.size wr (wr.alloc (.cells (arr 16 fun _ => 0).toArray 23)) := (Below.refl _ _).alloc (Nat.le_refl _) _
  have hs := h.size
  ⟨h.base.alloc _, fun j hj => by rw [hb.cell (by simp only; omega), h.b j hj, bto_8 _ _ _ hj], fun j hj => by rw [World.cell?_alloc_at _ _ _ _ hs.symm, List.getElem?_toArray, arr_at _ _ _ hj, if_neg (by omega)], fun j => World.frozen?_alloc_at _ _ _ _ hs.symm⟩

/-- The first i of eight bytes, read as a number. -/
def foldw (E : Nat → Int) : Nat → Int
  | 0 => 0
  | i + 1 => foldw E i * 256 + E i
theorem foldw_8 (E : Nat → Int) : foldw E 8 = word E := by
  simp only [foldw, word]; omega
theorem foldw_bounds (E : Nat → Int) (hE : ∀ j, j < 8 → 0 ≤ E j ∧ E j ≤ 255) : ∀ i, i ≤ 8 → 0 ≤ foldw E i ∧ foldw E i < 256 ^ i
  | 0, _ => by simp [foldw]
  | i + 1, h => by
    have h1 := foldw_bounds E hE i (by omega)
    have h2 := hE i (by omega)
    rw [foldw, Int.pow_succ]
    omega
theorem foldw_lt (E : Nat → Int) (hE : ∀ j, j < 8 → 0 ≤ E j ∧ E j ≤ 255) (i : Nat) (hi : i < 8) : 0 ≤ foldw E i ∧ foldw E i < 72057594037927936 := by
  have h := foldw_bounds E hE i (by omega)
  have hp : (256 : Int) ^ i ≤ 72057594037927936 := by
    match i, hi with
    | 0, _ => decide
    | 1, _ => decide
    | 2, _ => decide
    | 3, _ => decide
    | 4, _ => decide
    | 5, _ => decide
    | 6, _ => decide
    | 7, _ => decide
  omega
theorem or_byte (x y : Int) (hx : 0 ≤ x ∧ x < 72057594037927936) (hy : 0 ≤ y ∧ y ≤ 255) : bits .or .u64 (x * 256) y = x * 256 + y := by
  rw [u64_or _ _ (by omega) (by omega) hy.1 (by omega), nat_join 8 _ _ (by omega) (by omega)]
  omega

structure L4 (w : World) (M : Nat) (E : Nat → Int) (wr : World) : Prop where
  below : Below w.heap.size w wr
  g : ∀ j, j < 16 → wr.cell? ⟨w.heap.size + 1 + 1, j, none⟩ = some (.int .u8 (E j))
  t : ∀ j, j < 16 → wr.cell? ⟨M + 1 + 1, j, none⟩ = some (.int .u8 (E j))
theorem L4.drew {w : World} {M : Nat} {E : Nat → Int} {wr : World} (h : L4 w M E wr) : L4 w M E wr.drew := ⟨h.below.drew, h.g, h.t⟩

set_option maxRecDepth 100000 in
set_option maxHeartbeats 1600000 in
theorem encrypts_walk (hi lo : Int) (K J : Nat → Int) (h0 : 0 ≤ hi) (h1 : hi < 18446744073709551616) (l0 : 0 ≤ lo) (l1 : lo < 18446744073709551616) (hK : ∀ j, j < 16 → 0 ≤ K j ∧ K j ≤ 255) (w : World) :
    Calls Yba.prog 5 #[.int .u64 hi, .int .u64 lo, .agg (arr 16 K).toArray, .agg (arr 16 J).toArray] w fun e w' => e = .returned (.bool true) ∧ Below w.heap.size w w' := by
  have rJ := range_alloc (range_new (w.alloc (.cells (arr 16 K).toArray 23)) 16 J 23) (by simp) (.cells (arr 16 fun _ => 0).toArray 23)
  have tG := there_new ((w.alloc (.cells (arr 16 K).toArray 23)).alloc (.cells (arr 16 J).toArray 23)) 16 (fun _ => 0) 23
  rw [World.size_alloc] at rJ
  rw [World.size_alloc, World.size_alloc] at tG
  have hp0 := pre_any w K J
  rw [← zeros16] at tG rJ hp0
  have hl : (arr 16 K).length = 16 := arr_length _ _
  have hbl := build33 K
  go_enter Yba.func5, Yba.ntmps5
  go_upto_region 2 with fail
  go_step
  go_step
  go_step
  go_step
  refine wpList_load_mid rfl 23 _ rfl (w.heap.size + 1) 0 rfl (arr 16 J) _ rJ Yba.underlying23 rfl size23 ?_
  clear rJ
  go_step
  go_step
  go_step
  refine wpList_store_mid rfl 23 _ _ rfl (w.heap.size + 1 + 1) 0 (arr 16 J).toArray rfl rfl tG size23 (all_oneCell_toArray (arr_one _ _)) ?_
  clear tG
  have hp : Pre w K (World.setCells _ (w.heap.size + 1 + 1) 0 (arr 16 J).toArray.toList) := hp0
  clear hp0
  generalize World.setCells _ (w.heap.size + 1 + 1) 0 (arr 16 J).toArray.toList = w2 at *
  have rK := hp.key
  go_upto_region 3 with fail
  go_step
  refine wpList_load_mid rfl 23 _ rfl w.heap.size 0 rfl (arr 16 K) _ rK Yba.underlying23 rfl size23 ?_
  clear rK
  go_wp2_with fail
  have hs := hp.size
  refine (cipher_any w2.heap.size (w.heap.size + 1 + 1) K hi lo h0 h1 l0 l1 (by omega) hK _ (fun j hj => ?hk) (fun j ha hb => ?hc) (fun j => ?zb) (World.there_alloc (World.there_alloc hp.there _) _)).mono ?_
  case hk => rw [World.cell?_alloc_past _ _ _ (by simp), World.cell?_alloc_new, List.getElem?_toArray, blk_key K j hj]
  case hc => rw [World.cell?_alloc_past _ _ _ (by simp), World.cell?_alloc_new, List.getElem?_toArray, blk_cnt K j ha hb]
  case zb => rw [World.frozen?_alloc_past _ _ _ (by simp)]; exact World.frozen?_alloc_at _ _ _ _ rfl
  rintro e w3 ⟨rfl, he⟩
  have HB : Hid _ := base_any [.iface 31 (.pointer (some ⟨w2.heap.size, 0, none⟩)), .pointer (some ⟨w.heap.size + 1 + 1, 0, none⟩)] hp he
  rw [hs]
  have H1 : Hid _ := HB.out.first (by simp) hi lo
  rw [← zeros16] at H1
  clear hp he hbl HB
  go_wp2_with fail
  generalize w3.heap.size = M at *
  go_loopw [14] (fun t wr => ∃ i : Nat, i ≤ 8 ∧ t = .int .i64 i ∧ L1 w M K (enc K (pb hi lo)) hi lo i wr) (fun t _ => 8 - (intOf t).toNat)
  case atStart => exact ⟨0, Nat.zero_le _, rfl, H1.out⟩
  case round =>
    clear H1
    obtain ⟨i, hi8, rfl, hL⟩ := hrel
    by_cases hlt : i < 8
    · have HS : Hid _ := hL.step hlt
      have a1 := hL.b i (by omega)
      have a2 := hL.b (i + 8) (by omega)
      have a3 := hL.z i
      have a4 := hL.z (i + 8)
      clear hL
      generalize bto hi lo i i = x1 at *
      generalize bto hi lo i (i + 8) = x2 at *
      have b1 : (i : Int) < 8 := by omega
      have b2 : (0 : Int) ≤ (i : Int) := by omega
      have b3 : ((8 : Int) + (i : Int)).toNat = i + 8 := by omega
      go_wp2_with fail
      rw [byt_sh hi h0 h1 i hlt, byt_sh lo l0 l1 i hlt]
      exact ⟨⟨i + 1, by omega, by go_num, HS.out⟩, by simp [intOf]; omega⟩
    · obtain rfl : i = 8 := by omega
      rw [show ((8 : Nat) : Int) = 8 from rfl]
      have H2 : Hid _ := hL.next
      have hs2 := hL.size
      rw [← zeros16] at H2
      clear hL
      have HE : Hid (∀ j, j < 16 → 0 ≤ enc K (pb hi lo) j ∧ enc K (pb hi lo) j ≤ 255) := enc_bounds K _ hK (pb_bounds hi lo h0 h1 l0 l1)
      generalize pb hi lo = P at *
      go_wp2_with fail
      go_loopw [16] (fun t wx => ∃ i : Nat, i ≤ 16 ∧ t = .int .i64 i ∧ L2 w M K P i wx) (fun t _ => 16 - (intOf t).toNat)
      case atStart => exact ⟨0, Nat.zero_le _, rfl, H2.out⟩
      case round =>
        clear H2
        obtain ⟨i, hi16, rfl, hL⟩ := hrel
        by_cases hlt : i < 16
        · have HS : Hid _ := hL.step
          have a1 := hL.b ((i + 1) % 16) (by omega)
          have a2 := hL.base.key i (by omega)
          have a5 := hL.t i (by omega)
          have a6 := hL.z i
          have hM := hL.base.hM
          clear hL
          generalize P ((i + 1) % 16) = u at *
          generalize K i = v at *
          have b1 : (i : Int) < 16 := by omega
          have b2 : (0 : Int) ≤ (i : Int) := by omega
          have b3 : ((i : Int) + 1) % 16 < 16 := by omega
          have b4 : (0 : Int) ≤ ((i : Int) + 1) % 16 := by omega
          have b5 : (((i : Int) + 1) % 16).toNat = (i + 1) % 16 := by omega
          have b6 : IntKind.i64.wrap ((i : Int) + 1) = (i : Int) + 1 := IntWalk.i64_in _ (by omega)
          have b7 : ((i : Int) + 1).tmod 16 = ((i : Int) + 1) % 16 := Int.tmod_eq_emod_of_nonneg (by omega)
          have b8 : IntKind.i64.wrap (((i : Int) + 1) % 16) = ((i : Int) + 1) % 16 := IntWalk.i64_in _ (by omega)
          have n1 : ∀ (W : World) (x : Value) (j k : Nat), (W.setCell ⟨M + 1 + 1, j, none⟩ x).cell? ⟨M + 1, k, none⟩ = W.cell? ⟨M + 1, k, none⟩ := fun W x j k => World.cell?_setCell_other _ _ _ _ (blockNe (by omega))
          have n2 : ∀ (W : World) (x : Value) (j k : Nat), (W.setCell ⟨M + 1 + 1, j, none⟩ x).cell? ⟨w.heap.size, k, none⟩ = W.cell? ⟨w.heap.size, k, none⟩ := fun W x j k => World.cell?_setCell_other _ _ _ _ (blockNe (by omega))
          go_wp2_with fail
          go_region_held3 (fun w' => w'.cell? ⟨M + 1, (i + 1) % 16, none⟩ = some (.int .u8 u) ∧ w'.cell? ⟨w.heap.size, i, none⟩ = some (.int .u8 v)) (go_keep) (fail)
          clear n1 n2 a1 a2 a5 a6
          go_wp2_with fail
          go_roundw
          case rel => exact ⟨i + 1, by omega, by go_num, HS.out⟩
          case measure => simp [intOf]; omega
        · obtain rfl : i = 16 := by omega
          rw [show ((16 : Nat) : Int) = 16 from rfl]
          have hB := hL.base
          have hT : ∀ j, j < 16 → wr.cell? ⟨M + 1 + 1, j, none⟩ = some (.int .u8 (enc K P j)) := fun j hj => by rw [hL.t j hj, if_pos hj]
          have hE : ∀ j, j < 16 → 0 ≤ enc K P j ∧ enc K P j ≤ 255 := HE.out
          clear hL
          generalize enc K P = E at *
          have HT : Hid _ := hT
          have HE2 : Hid _ := hE
          have HB : Hid _ := hB
          clear hT hE hB HE
          go_wp2_with fail
          go_loopw [17, 18, 19] (fun t17 t18 t19 wx => ∃ i : Nat, i ≤ 8 ∧ t17 = .int .u64 (foldw E i) ∧ t18 = .int .u64 (foldw (fun j => E (j + 8)) i) ∧ t19 = .int .i64 i ∧ wx = wr) (fun _ _ t _ => 8 - (intOf t).toNat)
          case atStart => exact ⟨0, Nat.zero_le _, rfl, rfl, rfl, rfl⟩
          case round =>
            obtain ⟨i, hi8, rfl, rfl, rfl, rfl⟩ := hrel
            by_cases hlt : i < 8
            · have f1 := foldw_lt E (fun j hj => HE2.out j (by omega)) i hlt
              have f2 := foldw_lt (fun j => E (j + 8)) (fun j hj => HE2.out (j + 8) (by omega)) i hlt
              have o1 := or_byte _ _ f1 (HE2.out i (by omega))
              have o2 := or_byte _ _ f2 (HE2.out (i + 8) (by omega))
              have a1 := HT.out i (by omega)
              have a2 := HT.out (i + 8) (by omega)
              have N1 : Hid (foldw E (i + 1) = foldw E i * 256 + E i) := rfl
              have N2 : Hid (foldw (fun j => E (j + 8)) (i + 1) = foldw (fun j => E (j + 8)) i * 256 + E (i + 8)) := rfl
              generalize foldw E i = x1 at *
              generalize foldw (fun j => E (j + 8)) i = x2 at *
              have b1 : (i : Int) < 8 := by omega
              have b2 : (0 : Int) ≤ (i : Int) := by omega
              have b3 : ((8 : Int) + (i : Int)).toNat = i + 8 := by omega
              obtain ⟨f3, f4⟩ := f1
              obtain ⟨f5, f6⟩ := f2
              have w1 : IntKind.u64.wrap (E i) = E i := by have := HE2.out i (by omega); rw [IntKind.wrap_u64]; omega
              have w2 : IntKind.u64.wrap (E (i + 8)) = E (i + 8) := by have := HE2.out (i + 8) (by omega); rw [IntKind.wrap_u64]; omega
              go_wp2_with fail
              exact ⟨⟨i + 1, by omega, by rw [N1.out], by rw [N2.out], by go_num, trivial⟩, by simp [intOf]; omega⟩
            · obtain rfl : i = 8 := by omega
              rw [show ((8 : Nat) : Int) = 8 from rfl, foldw_8, foldw_8]
              have r0 := HB.out.r0
              have r1 := HB.out.r1
              have c1 := HB.out.cnt.c
              have c2 := HB.out.cnt.d
              have c3 := HB.out.cnt.s
              have H4 : Hid (L4 w M E wr) := ⟨HB.out.below, HB.out.g, HT.out⟩
              go_wp2_with fail
              clear r0 r1 c1 c2 c3 HB HT
              go_loopw [20] (fun t wx => ∃ i : Nat, i ≤ 16 ∧ t = .int .i64 i ∧ L4 w M E wx) (fun t _ => 16 - (intOf t).toNat)
              case atStart => exact ⟨0, Nat.zero_le _, rfl, H4.out⟩
              case round =>
                clear H4
                obtain ⟨i, hi16, rfl, hL⟩ := hrel
                by_cases hlt : i < 16
                · have HS : Hid _ := hL.drew
                  have a1 := hL.g i hlt
                  have a2 := hL.t i hlt
                  clear hL
                  generalize E i = u at *
                  have b1 : (i : Int) < 16 := by omega
                  have b2 : (0 : Int) ≤ (i : Int) := by omega
                  go_wp2_with fail
                  go_region_held3 (fun w' => w'.cell? ⟨w.heap.size + 1 + 1, i, none⟩ = some (.int .u8 u) ∧ w'.cell? ⟨M + 1 + 1, i, none⟩ = some (.int .u8 u)) (go_keep) (fail)
                  clear a1 a2
                  go_wp2_with fail
                  go_roundw
                  case rel => exact ⟨i + 1, by omega, by go_num, HS.out⟩
                  case measure => simp [intOf]; omega
                · obtain rfl : i = 16 := by omega
                  have H5 : Hid _ := hL.below
                  clear hL
                  go_wp2_with fail
                  go_ret
                  exact ⟨rfl, H5.out⟩
end Go.Proofs.Ybulkki
