import Derived.Test.YbulkkiEnc
namespace Go.Proofs.Ybulkki
open Go.RowKit

/-- The cipher's own blocks: its value at N, its result at N + 2. -/
structure Own (N B G : Nat) (w : World) : Prop where
  f0 : w.cell? ⟨N, 0, none⟩ = some (.iface 31 (.pointer (some ⟨B, 0, none⟩)))
  f1 : w.cell? ⟨N, 1, none⟩ = some (.pointer (some ⟨G, 0, none⟩))
  r0 : w.cell? ⟨N + 1 + 1, 0, none⟩ = some (.int .u64 0)
  r1 : w.cell? ⟨N + 1 + 1, 1, none⟩ = some (.int .u64 0)
  z0 : w.frozen? ⟨N + 1 + 1, 0, none⟩ = false
  z1 : w.frozen? ⟨N + 1 + 1, 1, none⟩ = false
theorem Own.keep {N B G : Nat} {w w' : World} (h : Own N B G w) (h0 : w'.heap[N]? = w.heap[N]?) (h2 : w'.heap[N + 1 + 1]? = w.heap[N + 1 + 1]?) : Own N B G w' :=
  ⟨(World.cell?_of_block (a := ⟨N, 0, none⟩) h0).trans h.f0, (World.cell?_of_block (a := ⟨N, 1, none⟩) h0).trans h.f1, (World.cell?_of_block (a := ⟨N + 1 + 1, 0, none⟩) h2).trans h.r0, (World.cell?_of_block (a := ⟨N + 1 + 1, 1, none⟩) h2).trans h.r1, (World.frozen?_of_block (a := ⟨N + 1 + 1, 0, none⟩) h2).trans h.z0, (World.frozen?_of_block (a := ⟨N + 1 + 1, 1, none⟩) h2).trans h.z1⟩
theorem Own.drew {N B G : Nat} {w : World} (h : Own N B G w) : Own N B G w.drew := h.keep rfl rfl

theorem method_enc (a : Addr) (w : World) : (method 169 31 (.pointer (some a)) "Encrypt").run Yba.prog w = .ok (33, .pointer (some a)) w := by kernel_rfl
theorem Finds.drew {B G : Nat} {K P : Nat → Int} {w : World} (h : Finds B G K P w) : Finds B G K P w.drew := ⟨h.k, h.c, h.zb, h.p, h.zg⟩

theorem x8_bounds (a b : Int) (ha : 0 ≤ a ∧ a ≤ 255) (hb : 0 ≤ b ∧ b ≤ 255) : 0 ≤ x8 a b ∧ x8 a b ≤ 255 := by
  unfold x8
  rw [u8_xor a b ha.1 (by omega) hb.1 (by omega)]
  have : a.toNat ^^^ b.toNat < 2 ^ 8 := Nat.xor_lt_two_pow (by omega) (by omega)
  omega
theorem enc_bounds (K P : Nat → Int) (hK : ∀ j, j < 16 → 0 ≤ K j ∧ K j ≤ 255) (hP : ∀ j, 0 ≤ P j ∧ P j ≤ 255) (j : Nat) (hj : j < 16) : 0 ≤ enc K P j ∧ enc K P j ≤ 255 := x8_bounds _ _ (hP _) (hK j hj)

set_option maxRecDepth 100000 in
set_option maxHeartbeats 1600000 in
/-- 'cipherK.encrypt'. -/
theorem cipher_any (B G : Nat) (K : Nat → Int) (hi lo : Int) (h0 : 0 ≤ hi) (h1 : hi < 18446744073709551616) (l0 : 0 ≤ lo) (l1 : lo < 18446744073709551616) (hBG : B ≠ G) (hK : ∀ j, j < 16 → 0 ≤ K j ∧ K j ≤ 255) (w : World)
    (hk : ∀ j, j < 16 → w.cell? ⟨B, j, none⟩ = some (.int .u8 (K j))) (hc : ∀ j, 16 ≤ j → j < 19 → w.cell? ⟨B, j, none⟩ = some (.int .i64 0)) (zb : ∀ j, w.frozen? ⟨B, j, none⟩ = false) (tg : w.there G 0 16) :
    Calls Yba.prog 11 #[.agg #[.iface 31 (.pointer (some ⟨B, 0, none⟩)), .pointer (some ⟨G, 0, none⟩)], .agg #[.int .u64 hi, .int .u64 lo]] w fun e w' => e = .returned (.agg #[.int .u64 (word (enc K (pb hi lo))), .int .u64 (word fun j => enc K (pb hi lo) (j + 8))]) ∧ Encd B G (enc K (pb hi lo)) w w' := by
  have hB : B < w.heap.size := lt_of_cell (hc 16 (by omega) (by omega))
  have hG : G < w.heap.size := lt_of_there tg (by omega)
  have bel : Below w.heap.size w (((w.alloc (.cells #[.iface 31 (.pointer (some ⟨B, 0, none⟩)), .pointer (some ⟨G, 0, none⟩)] 37)).alloc (.cells #[.int .u64 hi, .int .u64 lo] 25)).alloc (.cells #[.int .u64 0, .int .u64 0] 25)) := (((Below.refl _ _).alloc (Nat.le_refl _) _).alloc (by simp) _).alloc (by simp <;> omega) _
  have own : Own w.heap.size B G (((w.alloc (.cells #[.iface 31 (.pointer (some ⟨B, 0, none⟩)), .pointer (some ⟨G, 0, none⟩)] 37)).alloc (.cells #[.int .u64 hi, .int .u64 lo] 25)).alloc (.cells #[.int .u64 0, .int .u64 0] 25)) := by
    refine ⟨?_, ?_, ?_, ?_, ?_, ?_⟩
    · rw [World.cell?_alloc_past _ _ _ (by simp <;> omega), World.cell?_alloc_past _ _ _ (by simp), World.cell?_alloc_new]; rfl
    · rw [World.cell?_alloc_past _ _ _ (by simp <;> omega), World.cell?_alloc_past _ _ _ (by simp), World.cell?_alloc_new]; rfl
    · rw [World.cell?_alloc_at _ _ _ _ (by simp)]; rfl
    · rw [World.cell?_alloc_at _ _ _ _ (by simp)]; rfl
    · exact World.frozen?_alloc_at _ _ _ _ (by simp)
    · exact World.frozen?_alloc_at _ _ _ _ (by simp)
  have siz : (((w.alloc (.cells #[.iface 31 (.pointer (some ⟨B, 0, none⟩)), .pointer (some ⟨G, 0, none⟩)] 37)).alloc (.cells #[.int .u64 hi, .int .u64 lo] 25)).alloc (.cells #[.int .u64 0, .int .u64 0] 25)).heap.size = w.heap.size + 1 + 1 + 1 := by simp
  have hm := method_enc ⟨B, 0, none⟩
  go_enter Yba.func11, Yba.ntmps11
  go_wp2_with fail
  generalize ((w.alloc (.cells #[.iface 31 (.pointer (some ⟨B, 0, none⟩)), .pointer (some ⟨G, 0, none⟩)] 37)).alloc (.cells #[.int .u64 hi, .int .u64 lo] 25)).alloc (.cells #[.int .u64 0, .int .u64 0] 25) = w0 at *
  have tg0 : w0.there G 0 16 := fun j hj => by rw [bel.cell (by simp only; omega), bel.frozen (by simp only; omega)]; exact tg j hj
  refine (put_any G hi lo h0 h1 l0 l1 w0 tg0).mono ?_
  rintro e w1 ⟨rfl, hp⟩
  have own1 := own.keep (hp.grown.block w.heap.size (by omega) (by simp; omega)) (hp.grown.block (w.heap.size + 1 + 1) (by omega) (by simp; omega))
  have hs1 := hp.grown.size
  have e0 := own1.f0
  have e1 := own1.f1
  have hfd : Finds B G K (pb hi lo) w1 := by
    have hk1 := hp.grown.block B (by omega) (by simpa using hBG)
    refine ⟨fun j hj => ?_, fun j ha hb => ?_, fun j => ?_, hp.cell, fun j hj => ?_⟩
    · rw [World.cell?_of_block (a := ⟨B, j, none⟩) hk1, bel.cell (by simp only; omega)]; exact hk j hj
    · rw [World.cell?_of_block (a := ⟨B, j, none⟩) hk1, bel.cell (by simp only; omega)]; exact hc j ha hb
    · rw [World.frozen?_of_block (a := ⟨B, j, none⟩) hk1, bel.frozen (by simp only; omega)]; exact zb j
    · rw [hp.froz j]; simpa using (tg0 j hj).2
  go_wp2_with fail
  go_region_held3 (fun w' => w'.cell? ⟨w.heap.size, 0, none⟩ = some (.iface 31 (.pointer (some ⟨B, 0, none⟩))) ∧ w'.cell? ⟨w.heap.size, 1, none⟩ = some (.pointer (some ⟨G, 0, none⟩))) (go_keep)
    ((go_at_call 33; refine (encrypt_any B G K (pb hi lo) hBG _ hfd.drew).mono ?_; rintro e w2 ⟨rfl, he⟩; have own2 := own1.drew.keep (he.two.block w.heap.size (by simp only [World.drew]; omega) (by omega) (by omega)) (he.two.block (w.heap.size + 1 + 1) (by simp only [World.drew]; omega) (by omega) (by omega)); have q0 := own2.f0; have q1 := own2.f1))
  go_wp2_with fail
  have hs2 := he.two.size
  simp only [World.drew] at hs2
  refine (load_any G (enc K (pb hi lo)) (enc_bounds K _ hK (pb_bounds hi lo h0 h1 l0 l1)) w2 he.g).mono ?_
  rintro e w3 ⟨rfl, hb3⟩
  have own3 := own2.keep (hb3.block w.heap.size (by omega)) (hb3.block (w.heap.size + 1 + 1) (by omega))
  have r0 := own3.r0
  have r1 := own3.r1
  have z0 := own3.z0
  have z1 := own3.z1
  go_wp2
  have k0 := World.cell?_setCell_same w3 ⟨w.heap.size + 1 + 1, 0, none⟩ (.int .u64 (word (enc K (pb hi lo)))) r0
  have k1 := (World.cell?_setCell_other w3 ⟨w.heap.size + 1 + 1, 0, none⟩ ⟨w.heap.size + 1 + 1, 1, none⟩ (.int .u64 (word (enc K (pb hi lo)))) (by simp)).trans r1
  refine bodyPost_ret (results_cell Yba.results11 _ _ (w.heap.size + 1 + 1) 0 [.int .u64 (word (enc K (pb hi lo))), .int .u64 (word fun j => enc K (pb hi lo) (j + 8))] _ rfl ?_ Yba.underlying25 rfl size25) rfl ⟨rfl, ?_, ?_, ?_⟩
  · intro j v hv
    match j, hv with
    | 0, hv => simp at hv; subst hv; exact (World.cell?_setCell_other _ _ _ _ (by simp)).trans k0
    | 1, hv => simp at hv; subst hv; exact World.cell?_setCell_same _ _ _ k1
  · have t0 : Two B G w w1 := ⟨hp.grown.os.trans bel.os, hp.grown.tape.trans bel.tape, hp.grown.output.trans bel.output, Nat.le_trans bel.size hs1, fun k hk _ hg => (hp.grown.block k (by omega) (by simp; omega)).trans (bel.block k hk)⟩
    have t1 : Two B G w w3 := ⟨hb3.os.trans (he.two.os.trans t0.os), hb3.tape.trans (he.two.tape.trans t0.tape), hb3.output.trans (he.two.output.trans t0.output), Nat.le_trans (Nat.le_trans t0.size hs2) hb3.size, fun k hk hb hg => (hb3.block k (by have := t0.size; omega)).trans ((he.two.block k (by simp only [World.drew]; have := t0.size; omega) hb hg).trans (t0.block k hk hb hg))⟩
    exact (t1.set (.inr (.inr (by simp; omega))) _).set (.inr (.inr (by simp; omega))) _
  · have c0 : Cnt B w3 := ⟨(hb3.cell (by simp only; omega)).trans he.cnt.c, (hb3.cell (by simp only; omega)).trans he.cnt.d, (hb3.cell (by simp only; omega)).trans he.cnt.s⟩
    exact (c0.set (by simp; omega) _).set (by simp; omega) _
  · intro j hj
    rw [World.cell?_setCell_other _ _ _ _ (blockNe (by omega)), World.cell?_setCell_other _ _ _ _ (blockNe (by omega)), hb3.cell (by simp only; omega)]
    exact he.g j hj
end Go.Proofs.Ybulkki
