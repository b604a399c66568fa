import Derived.Test.YbulkkiKc
import Derived.Test.YbulkkiRound
namespace Go.Proofs.Ybulkki
open Go.RowKit

/-- The block cipher of the law: turn by one byte, then xor with the key. -/
def enc (K P : Nat → Int) (j : Nat) : Int := x8 (P ((j + 1) % 16)) (K j)

/-- Of what was there, blocks B and G alone have turned. -/
structure Two (B G : Nat) (w w' : World) : Prop where
  os : w'.os = w.os
  tape : w'.tape = w.tape
  output : w'.output = w.output
  size : w.heap.size ≤ w'.heap.size
  block : ∀ k, k < w.heap.size → k ≠ B → k ≠ G → w'.heap[k]? = w.heap[k]?
theorem Two.set {B G : Nat} {w w' : World} (h : Two B G w w') {p : Addr} (hp : p.block = B ∨ p.block = G ∨ w.heap.size ≤ p.block) (v : Value) : Two B G w (w'.setCell p v) :=
  ⟨h.os, h.tape, h.output, Nat.le_trans h.size (by simp [World.setCell]), fun k hk h1 h2 => (Below.heap_setCell _ _ _ _ (by omega)).trans (h.block k hk h1 h2)⟩
theorem Two.drew {B G : Nat} {w w' : World} (h : Two B G w w') : Two B G w w'.drew := ⟨h.os, h.tape, h.output, h.size, h.block⟩
theorem Two.alloc {B G : Nat} {w w' : World} (h : Two B G w w') (o : Obj) : Two B G w (w'.alloc o) :=
  have hb : Below w'.heap.size w' (w'.alloc o) := (Below.refl _ _).alloc (Nat.le_refl _) _
  ⟨hb.os.trans h.os, hb.tape.trans h.tape, hb.output.trans h.output, Nat.le_trans h.size hb.size, fun k hk h1 h2 => (hb.block k (Nat.lt_of_lt_of_le hk h.size)).trans (h.block k hk h1 h2)⟩

/-- The three counters of the block. -/
structure Cnt (B : Nat) (w : World) : Prop where
  c : w.cell? ⟨B, 16, none⟩ = some (.int .i64 1)
  d : w.cell? ⟨B, 17, none⟩ = some (.int .i64 16)
  s : w.cell? ⟨B, 18, none⟩ = some (.int .i64 16)
theorem Cnt.set {B : Nat} {w : World} (h : Cnt B w) {p : Addr} (hp : p.block ≠ B) (v : Value) : Cnt B (w.setCell p v) :=
  ⟨(World.cell?_setCell_other _ _ _ _ (fun e => hp (by rw [e]))).trans h.c, (World.cell?_setCell_other _ _ _ _ (fun e => hp (by rw [e]))).trans h.d, (World.cell?_setCell_other _ _ _ _ (fun e => hp (by rw [e]))).trans h.s⟩
theorem Cnt.drew {B : Nat} {w : World} (h : Cnt B w) : Cnt B w.drew := ⟨(World.cell?_drew _ _).trans h.c, (World.cell?_drew _ _).trans h.d, (World.cell?_drew _ _).trans h.s⟩

structure ES (w : World) (B G T : Nat) (K P : Nat → Int) (i : Nat) (wr : World) : Prop where
  two : Two B G w wr
  cnt : Cnt B wr
  k : ∀ j, j < 16 → wr.cell? ⟨B, j, none⟩ = some (.int .u8 (K j))
  p : ∀ j, j < 16 → wr.cell? ⟨G, j, none⟩ = some (.int .u8 (P j))
  zg : ∀ j, j < 16 → wr.frozen? ⟨G, j, none⟩ = false
  t : ∀ j, j < 16 → wr.cell? ⟨T, j, none⟩ = some (.int .u8 (if j < i then enc K P j else 0))
  zt : ∀ j, wr.frozen? ⟨T, j, none⟩ = false

theorem ES.step {w : World} {B G T : Nat} {K P : Nat → Int} {i : Nat} {wr : World} (h : ES w B G T K P i wr) (hT : w.heap.size ≤ T) (hB : B < T) (hG : G < T) :
    ES w B G T K P (i + 1) (wr.setCell ⟨T, i, none⟩ (.int .u8 (enc K P i))).drew := by
  refine ⟨(h.two.set (.inr (.inr hT)) _).drew, (h.cnt.set (by simp; omega) _).drew, fun j hj => ?_, fun j hj => ?_, fun j hj => ?_, fun j hj => ?_, fun j => ?_⟩
  · rw [World.cell?_drew, World.cell?_setCell_other _ _ _ _ (blockNe (by omega))]; exact h.k j hj
  · rw [World.cell?_drew, World.cell?_setCell_other _ _ _ _ (blockNe (by omega))]; exact h.p j hj
  · rw [World.frozen?_drew, World.frozen?_setCell]; exact h.zg j hj
  · rw [World.cell?_drew]
    by_cases e : j = i
    · subst e
      rw [World.cell?_setCell_same _ _ _ (h.t _ hj), if_pos (by omega)]
    · rw [World.cell?_setCell_other _ _ _ _ (offNe (Ne.symm e)), h.t j hj]
      by_cases e2 : j < i
      · rw [if_pos e2, if_pos (by omega)]
      · rw [if_neg e2, if_neg (by omega)]
  · rw [World.frozen?_drew, World.frozen?_setCell]; exact h.zt j

structure FS (w : World) (B G T : Nat) (E P : Nat → Int) (i : Nat) (wr : World) : Prop where
  two : Two B G w wr
  cnt : Cnt B wr
  g : ∀ j, j < 16 → wr.cell? ⟨G, j, none⟩ = some (.int .u8 (if j < i then E j else P j))
  zg : ∀ j, j < 16 → wr.frozen? ⟨G, j, none⟩ = false
  t : ∀ j, j < 16 → wr.cell? ⟨T, j, none⟩ = some (.int .u8 (E j))

theorem FS.step {w : World} {B G T : Nat} {E P : Nat → Int} {i : Nat} {wr : World} (h : FS w B G T E P i wr) (hBG : B ≠ G) (hG : G < T) :
    FS w B G T E P (i + 1) (wr.setCell ⟨G, i, none⟩ (.int .u8 (E i))) := by
  refine ⟨h.two.set (.inr (.inl rfl)) _, h.cnt.set (fun e => hBG e.symm) _, fun j hj => ?_, fun j hj => ?_, fun j hj => ?_⟩
  · by_cases e : j = i
    · subst e
      rw [World.cell?_setCell_same _ _ _ (h.g _ hj), if_pos (by omega)]
    · rw [World.cell?_setCell_other _ _ _ _ (offNe (Ne.symm e)), h.g j hj]
      by_cases e2 : j < i
      · rw [if_pos e2, if_pos (by omega)]
      · rw [if_neg e2, if_neg (by omega)]
  · rw [World.frozen?_setCell]; exact h.zg j hj
  · rw [World.cell?_setCell_other _ _ _ _ (blockNe (by omega))]; exact h.t j hj

/-- What the method leaves. -/
structure Encd (B G : Nat) (E : Nat → Int) (w w' : World) : Prop where
  two : Two B G w w'
  cnt : Cnt B w'
  g : ∀ j, j < 16 → w'.cell? ⟨G, j, none⟩ = some (.int .u8 (E j))

/-- What the method finds. -/
structure Finds (B G : Nat) (K P : Nat → Int) (w : World) : Prop where
  k : ∀ j, j < 16 → w.cell? ⟨B, j, none⟩ = some (.int .u8 (K j))
  c : ∀ j, 16 ≤ j → j < 19 → w.cell? ⟨B, j, none⟩ = some (.int .i64 0)
  zb : ∀ j, w.frozen? ⟨B, j, none⟩ = false
  p : ∀ j, j < 16 → w.cell? ⟨G, j, none⟩ = some (.int .u8 (P j))
  zg : ∀ j, j < 16 → w.frozen? ⟨G, j, none⟩ = false

theorem Two.refl (B G : Nat) (w : World) : Two B G w w := ⟨rfl, rfl, rfl, Nat.le_refl _, fun _ _ _ _ => rfl⟩
theorem Finds.start {B G : Nat} {K P : Nat → Int} {w : World} (hf : Finds B G K P w) (hBG : B ≠ G) :
    ES w B G w.heap.size K P 0 ((((w.setCell ⟨B, 16, none⟩ (.int .i64 1)).setCell ⟨B, 17, none⟩ (.int .i64 16)).setCell ⟨B, 18, none⟩ (.int .i64 16)).alloc (.cells (arr 16 fun _ => 0).toArray 23)) := by
  have hB : B < w.heap.size := lt_of_cell (hf.c 16 (by omega) (by omega))
  have hG : G < w.heap.size := lt_of_cell (hf.p 0 (by omega))
  have e1 := World.cell?_setCell_same w ⟨B, 16, none⟩ (.int .i64 1) (hf.c 16 (by omega) (by omega))
  have e2 := World.cell?_setCell_same (w.setCell ⟨B, 16, none⟩ (.int .i64 1)) ⟨B, 17, none⟩ (.int .i64 16) ((World.cell?_setCell_other _ _ _ _ (by simp)).trans (hf.c 17 (by omega) (by omega)))
  have e3 := World.cell?_setCell_same ((w.setCell ⟨B, 16, none⟩ (.int .i64 1)).setCell ⟨B, 17, none⟩ (.int .i64 16)) ⟨B, 18, none⟩ (.int .i64 16) ((World.cell?_setCell_other _ _ _ _ (by simp)).trans ((World.cell?_setCell_other _ _ _ _ (by simp)).trans (hf.c 18 (by omega) (by omega))))
  have t0 : Two B G w (((w.setCell ⟨B, 16, none⟩ (.int .i64 1)).setCell ⟨B, 17, none⟩ (.int .i64 16)).setCell ⟨B, 18, none⟩ (.int .i64 16)) := (((Two.refl B G w).set (.inl rfl) _).set (.inl rfl) _).set (.inl rfl) _
  have k0 : ∀ j, j < 16 → (((w.setCell ⟨B, 16, none⟩ (.int .i64 1)).setCell ⟨B, 17, none⟩ (.int .i64 16)).setCell ⟨B, 18, none⟩ (.int .i64 16)).cell? ⟨B, j, none⟩ = some (.int .u8 (K j)) := fun j hj => by
    rw [World.cell?_setCell_other _ _ _ _ (offNe (by omega)), World.cell?_setCell_other _ _ _ _ (offNe (by omega)), World.cell?_setCell_other _ _ _ _ (offNe (by omega))]; exact hf.k j hj
  have g0 : ∀ j, j < 16 → (((w.setCell ⟨B, 16, none⟩ (.int .i64 1)).setCell ⟨B, 17, none⟩ (.int .i64 16)).setCell ⟨B, 18, none⟩ (.int .i64 16)).cell? ⟨G, j, none⟩ = some (.int .u8 (P j)) := fun j hj => by
    rw [World.cell?_setCell_other _ _ _ _ (blockNe hBG), World.cell?_setCell_other _ _ _ _ (blockNe hBG), World.cell?_setCell_other _ _ _ _ (blockNe hBG)]; exact hf.p j hj
  have z0 : ∀ j, j < 16 → (((w.setCell ⟨B, 16, none⟩ (.int .i64 1)).setCell ⟨B, 17, none⟩ (.int .i64 16)).setCell ⟨B, 18, none⟩ (.int .i64 16)).frozen? ⟨G, j, none⟩ = false := fun j hj => by
    rw [World.frozen?_setCell, World.frozen?_setCell, World.frozen?_setCell]; exact hf.zg j hj
  have f3 := e3
  have f2 : (((w.setCell ⟨B, 16, none⟩ (.int .i64 1)).setCell ⟨B, 17, none⟩ (.int .i64 16)).setCell ⟨B, 18, none⟩ (.int .i64 16)).cell? ⟨B, 17, none⟩ = some (.int .i64 16) := (World.cell?_setCell_other _ _ _ _ (by simp)).trans e2
  have f1 : (((w.setCell ⟨B, 16, none⟩ (.int .i64 1)).setCell ⟨B, 17, none⟩ (.int .i64 16)).setCell ⟨B, 18, none⟩ (.int .i64 16)).cell? ⟨B, 16, none⟩ = some (.int .i64 1) := (World.cell?_setCell_other _ _ _ _ (by simp)).trans ((World.cell?_setCell_other _ _ _ _ (by simp)).trans e1)
  have hs : (((w.setCell ⟨B, 16, none⟩ (.int .i64 1)).setCell ⟨B, 17, none⟩ (.int .i64 16)).setCell ⟨B, 18, none⟩ (.int .i64 16)).heap.size = w.heap.size := by simp [World.setCell]
  clear e1 e2 e3
  generalize (((w.setCell ⟨B, 16, none⟩ (.int .i64 1)).setCell ⟨B, 17, none⟩ (.int .i64 16)).setCell ⟨B, 18, none⟩ (.int .i64 16)) = w0 at *
  have hb : Below w0.heap.size w0 (w0.alloc (.cells (arr 16 fun _ => 0).toArray 23)) := (Below.refl _ _).alloc (Nat.le_refl _) _
  refine ⟨t0.alloc _, ⟨(hb.cell (by simp only; omega)).trans f1, (hb.cell (by simp only; omega)).trans f2, (hb.cell (by simp only; omega)).trans f3⟩, fun j hj => (hb.cell (by simp only; omega)).trans (k0 j hj), fun j hj => (hb.cell (by simp only; omega)).trans (g0 j hj), fun j hj => (hb.frozen (by simp only; omega)).trans (z0 j hj), fun j hj => ?_, fun j => World.frozen?_alloc_at _ _ _ _ hs.symm⟩
  rw [World.cell?_alloc_at _ _ _ _ hs.symm, List.getElem?_toArray, arr_at _ _ _ hj, if_neg (by omega)]

theorem ES.next {w : World} {B G T : Nat} {K P : Nat → Int} {wr : World} (h : ES w B G T K P 16 wr) : FS w B G T (enc K P) P 0 wr :=
  ⟨h.two, h.cnt, fun j hj => by rw [h.p j hj, if_neg (by omega)], h.zg, fun j hj => by rw [h.t j hj, if_pos hj]⟩

set_option maxRecDepth 100000 in
set_option maxHeartbeats 1600000 in
/-- '(*zzs0021bblk).Encrypt'. -/
theorem encrypt_any (B G : Nat) (K P : Nat → Int) (hBG : B ≠ G) (w : World) (hf : Finds B G K P w) :
    Calls Yba.prog 33 #[.pointer (some ⟨B, 0, none⟩), .slice (some ⟨G, 0, none⟩) 16 16, .slice (some ⟨G, 0, none⟩) 16 16] w fun e w' => e = .returned (.tuple #[]) ∧ Encd B G (enc K P) w w' := by
  have hB : B < w.heap.size := lt_of_cell (hf.c 16 (by omega) (by omega))
  have hG : G < w.heap.size := lt_of_cell (hf.p 0 (by omega))
  have c1 := hf.c 16 (by omega) (by omega)
  have c2 := hf.c 17 (by omega) (by omega)
  have c3 := hf.c 18 (by omega) (by omega)
  have z1 := hf.zb 16
  have z2 := hf.zb 17
  have z3 := hf.zb 18
  have H0 : Hid _ := hf.start hBG
  rw [← zeros16] at H0
  go_enter Yba.func33, Yba.ntmps33
  go_wp2_with fail
  clear c1 c2 c3 z1 z2 z3 hf
  go_loopw [7] (fun t wr => ∃ i : Nat, i ≤ 16 ∧ t = .int .i64 i ∧ ES w B G w.heap.size K P i wr) (fun t _ => 16 - (intOf t).toNat)
  case atStart => exact ⟨0, Nat.zero_le _, rfl, H0.out⟩
  case round =>
    clear H0
    obtain ⟨i, hi, rfl, hK⟩ := hrel
    by_cases hlt : i < 16
    · have HS : Hid (ES w B G w.heap.size K P (i + 1) (wr.setCell ⟨w.heap.size, i, none⟩ (.int .u8 (x8 (P ((i + 1) % 16)) (K i)))).drew) := hK.step (Nat.le_refl _) hB hG
      have a1 := hK.p ((i + 1) % 16) (by omega)
      have a2 := hK.k i (by omega)
      have a5 := hK.t i (by omega)
      have a6 := hK.zt i
      clear hK
      generalize P ((i + 1) % 16) = u at *
      generalize K i = v at *
      have b1 : (i : Int) < 16 := by omega
      have b2 : (0 : Int) ≤ (i : Int) := by omega
      have b3 : ((i : Int) + 1) % 16 < 16 := by omega
      have b4 : (0 : Int) ≤ ((i : Int) + 1) % 16 := by omega
      have b5 : (((i : Int) + 1) % 16).toNat = (i + 1) % 16 := by omega
      have b6 : IntKind.i64.wrap ((i : Int) + 1) = (i : Int) + 1 := IntWalk.i64_in _ (by omega)
      have b7 : ((i : Int) + 1).tmod 16 = ((i : Int) + 1) % 16 := Int.tmod_eq_emod_of_nonneg (by omega)
      have b8 : IntKind.i64.wrap (((i : Int) + 1) % 16) = ((i : Int) + 1) % 16 := IntWalk.i64_in _ (by omega)
      have n1 : ∀ (W : World) (x : Value) (j k : Nat), (W.setCell ⟨w.heap.size, j, none⟩ x).cell? ⟨G, k, none⟩ = W.cell? ⟨G, k, none⟩ := fun W x j k => World.cell?_setCell_other _ _ _ _ (blockNe (by omega))
      have n2 : ∀ (W : World) (x : Value) (j k : Nat), (W.setCell ⟨w.heap.size, j, none⟩ x).cell? ⟨B, k, none⟩ = W.cell? ⟨B, k, none⟩ := fun W x j k => World.cell?_setCell_other _ _ _ _ (blockNe (by omega))
      go_wp2_with fail
      go_region_held3 (fun w' => w'.cell? ⟨G, (i + 1) % 16, none⟩ = some (.int .u8 u) ∧ w'.cell? ⟨B, i, none⟩ = some (.int .u8 v)) (go_keep) (fail)
      clear n1 n2 a1 a2 a5 a6
      go_wp2_with fail
      go_roundw
      case rel => exact ⟨i + 1, by omega, by go_num, HS.out⟩
      case measure => simp [intOf]; omega
    · obtain rfl : i = 16 := by omega
      have H1 : Hid (FS w B G w.heap.size (enc K P) P 0 wr) := hK.next
      clear hK
      go_wp2_with fail
      go_loopw [8] (fun t wx => ∃ i : Nat, i ≤ 16 ∧ t = .int .i64 i ∧ FS w B G w.heap.size (enc K P) P i wx) (fun t _ => 16 - (intOf t).toNat)
      case atStart => exact ⟨0, Nat.zero_le _, rfl, H1.out⟩
      case round =>
        clear H1
        obtain ⟨i, hi, rfl, hK⟩ := hrel
        by_cases hlt : i < 16
        · have HS : Hid (FS w B G w.heap.size (enc K P) P (i + 1) (wr.setCell ⟨G, i, none⟩ (.int .u8 (enc K P i)))) := hK.step hBG hG
          have a1 := hK.t i hlt
          have a2 := hK.g i hlt
          have a3 := hK.zg i hlt
          clear hK
          generalize enc K P i = u at *
          have b1 : (i : Int) < 16 := by omega
          have b2 : (0 : Int) ≤ (i : Int) := by omega
          go_wp2_with fail
          go_roundw
          case rel => exact ⟨i + 1, by omega, by go_num, HS.out⟩
          case measure => simp [intOf]; omega
        · obtain rfl : i = 16 := by omega
          have H2 : Hid (Encd B G (enc K P) w wr) := ⟨hK.two, hK.cnt, fun j hj => by rw [hK.g j hj, if_pos hj]⟩
          clear hK
          go_wp2_with fail
          go_end0
          exact ⟨rfl, H2.out⟩
end Go.Proofs.Ybulkki
