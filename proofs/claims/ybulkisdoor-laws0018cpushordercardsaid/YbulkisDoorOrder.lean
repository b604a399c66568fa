import Derived.Test.YbulkisDoorShared
import Derived.Deep.DeepCutAuto
import Derived.LaidEqlPtr
import Derived.ProofKit
namespace Go.Proofs.YbulkisDoor
open Go.RowKit Go.MuLone Go.ChangeShapes Go.WideShapes Go.ChangeAt

theorem run_neq_ptr_same {P : Program} (w : World) {tp te : TypeId} {j : TypeInfo} (a : Addr) (hp : P.underlying tp = some (.pointer te)) (hte : P.info? te = some j) :
    (binOp .neq tp (.pointer (some a)) (.pointer (some a))).run P w = .ok (.bool false) w := by
  have h : ∀ d : Nat, (Op.equalIn (d + 1) tp (.pointer (some a)) (.pointer (some a))).run P w = .ok true w := fun d => by
    simp [Op.equalIn, run_underlying hp, sizeOf, typeInfo, hte, run_sameAddr_same]
  simp only [binOp]
  simp [Op.equal, Op.maxDepth, h 9999]

theorem size83 : (Ybad.prog.info? 83).map (·.size) = some 3 := by kernel_rfl
theorem size40 : (Ybad.prog.info? 40).map (·.size) = some 257 := by kernel_rfl
theorem neq37 (a : Addr) (w : World) : (binOp .neq 37 (.pointer (some a)) (.pointer (some a))).run Ybad.prog w = .ok (.bool false) w := by
  obtain ⟨j, hj, _⟩ := Option.map_eq_some_iff.1 size83
  exact run_neq_ptr_same w a Ybad.underlying37 hj
theorem neq32 (a : Addr) (w : World) : (binOp .neq 32 (.pointer (some a)) (.pointer (some a))).run Ybad.prog w = .ok (.bool false) w := by
  obtain ⟨j, hj, _⟩ := Option.map_eq_some_iff.1 size40
  exact run_neq_ptr_same w a Ybad.underlying32 hj

/-- A new scheduler's queue is empty. -/
theorem New.queue {S : Nat} {w w' : World} (h : New S w) (hb : Below w.heap.size w w') (M : Nat) (hM : S < M) (P : Nat → Nat) : Queue S M (fun _ => S) 0 P w' := by
  have k : ∀ {j v}, w.cell? ⟨S, j, none⟩ = some v → w'.cell? ⟨S, j, none⟩ = some v := fun hv => (hb.cell (lt_of_cell hv)).trans hv
  have hS : S < w.heap.size := lt_of_cell h.c3
  have z : ∀ j, w'.frozen? ⟨S, j, none⟩ = false := fun j => (hb.frozen (p := ⟨S, j, none⟩) hS).trans (h.calm.z j)
  exact ⟨rfl, hM, k h.c9, k h.c4, k h.c3, fun i hi => absurd hi (Nat.not_lt_zero i), fun j hj => absurd hj (by simp), fun j hj => ⟨_, k (h.seg j hj)⟩, z, z, fun j h1 h2 => absurd h2 (by simp; omega), fun i j h1 h2 => absurd h2 (by simp; omega)⟩

/-- n pointers to tasks. -/
def ptrs (n : Nat) (P : Nat → Nat) : List Value := (List.range n).map fun q => .pointer (some ⟨P q, 0, none⟩)
theorem ptrs_length (n : Nat) (P : Nat → Nat) : (ptrs n P).length = n * 1 := by simp [ptrs]
theorem ptrs_at {n : Nat} {P : Nat → Nat} {j : Nat} {u : Value} (h : (ptrs n P)[j]? = some u) : j < n ∧ u = .pointer (some ⟨P j, 0, none⟩) := by
  by_cases hj : j < n
  · simp [ptrs, hj] at h
    exact ⟨hj, h.symm⟩
  · simp [ptrs, hj] at h
theorem ptrs_one {n : Nat} {P : Nat → Nat} (u : Value) (h : u ∈ ptrs n P) : u.oneCell' = true := by
  simp only [ptrs, List.mem_map] at h
  obtain ⟨q, _, rfl⟩ := h
  rfl
theorem ptrs_cells {n : Nat} {P : Nat → Nat} {w : World} {g : Nat} (h : ∀ q, q < n → w.cell? ⟨g, q, none⟩ = some (.pointer (some ⟨P q, 0, none⟩))) (j : Nat) (u : Value) (hj : (ptrs n P)[j]? = some u) : w.cell? ((⟨g, 0, none⟩ : Addr).add j) = some u := by
  obtain ⟨h1, rfl⟩ := ptrs_at hj
  rw [add_plain, Nat.zero_add]
  exact h j h1
theorem ptrs_all {a b : Nat} {P : Nat → Nat} (i : Nat) (h : i < a + b) : (ptrs a P ++ ptrs b fun q => P (a + q))[i]? = some (.pointer (some ⟨P i, 0, none⟩)) := by
  by_cases hi : i < a
  · rw [List.getElem?_append_left (by simp [ptrs]; exact hi)]
    simp [ptrs, hi]
  · rw [List.getElem?_append_right (by simp [ptrs]; omega)]
    simp only [ptrs, List.length_map, List.length_range, List.getElem?_map]
    rw [List.getElem?_range (by omega)]
    simp only [Option.map_some]
    rw [show a + (i - a) = i by omega]

set_option maxRecDepth 100000 in
set_option maxHeartbeats 1600000 in
theorem order_walk (a0 a1 : Int) (h00 : 0 ≤ a0) (h01 : a0 ≤ 65535) (h10 : 0 ≤ a1) (h11 : a1 ≤ 65535) (w : World) :
    Calls Ybad.prog 3 #[.int .u16 a0, .int .u16 a1] w fun e w' => e = .returned (.bool true) ∧ Below w.heap.size w w' := by
  obtain ⟨i0, hi, hz0, hz1, hz2⟩ := info_parts Ybad.info37
  obtain ⟨a, ha⟩ : ∃ k : Nat, a0 % 600 = (k : Int) := ⟨(a0 % 600).toNat, by omega⟩
  obtain ⟨b, hb⟩ : ∃ k : Nat, a1 % 600 = (k : Int) := ⟨(a1 % 600).toNat, by omega⟩
  have ha1 : a < 600 := by omega
  have hb1 : b < 600 := by omega
  go_enter Ybad.func3, Ybad.ntmps3
  go_upto_region 3 with fail
  go_cut [7] (fun s7 wc => s7 = .pointer (some ⟨w.heap.size, 0, none⟩) ∧ New w.heap.size wc ∧ Below w.heap.size w wc ∧ wc.heap.size = w.heap.size + 1)
  case first =>
    go_wp2
    go_meet
    case rel =>
      exact ⟨rfl, new_alloc w _ _ (by kernel_rfl), (Below.refl _ _).alloc (Nat.le_refl _) _, by simp⟩
  case rest =>
    obtain ⟨rfl, hN, hB, hsz⟩ := hcut
    go_wp2_with fail
    refine (tasks_any a (by omega) _).mono ?_
    rintro e wA ⟨g1, P1, rfl, hg1, hg1', hT1, bA⟩
    go_wp2_with fail
    refine (tasks_any b (by omega) _).mono ?_
    rintro e wB ⟨g2, P2, rfl, hg2, hg2', hT2, bB⟩
    have bAB : Below wc.heap.size wc wB := bA.trans (bB.mono bA.size)
    have sA := bA.size
    have sB := bB.size
    -- every task's number
    obtain ⟨P, hPa, hPb⟩ : ∃ P : Nat → Nat, (∀ i, i < a → P i = P1 i) ∧ (∀ i, P (a + i) = P2 i) := ⟨fun i => if i < a then P1 i else P2 (i - a), fun i h => by simp [h], fun i => by show (if a + i < a then _ else _) = _; rw [if_neg (by omega), Nat.add_sub_cancel_left]⟩
    have hQ0 := hN.queue bAB wB.heap.size (by omega) P
    have k1 : ∀ {j v}, wc.cell? ⟨w.heap.size, j, none⟩ = some v → wB.cell? ⟨w.heap.size, j, none⟩ = some v := fun hv => (bAB.cell (lt_of_cell hv)).trans hv
    have t1 : ∀ q, q < a → wB.cell? ⟨g1, q, none⟩ = some (.pointer (some ⟨P (0 + q), 0, none⟩)) := fun q hq => by
      rw [Nat.zero_add, hPa q hq]
      exact (bB.cell (lt_of_cell (hT1 q hq).1)).trans (hT1 q hq).1
    have t2 : ∀ q, q < b → wB.cell? ⟨g2, q, none⟩ = some (.pointer (some ⟨P (0 + a + q), 0, none⟩)) := fun q hq => by
      rw [Nat.zero_add, hPb q]
      exact (hT2 q hq).1
    have m1 := k1 hN.calm.c1
    have m275 := k1 hN.c275
    have m301 := k1 hN.calm.c301
    clear hT1 hT2 k1 hPa hPb
    go_wp2_with fail
    refine (shared_any w.heap.size wB.heap.size _ 0 g1 a P _ hQ0 (Nat.le_refl _) (by omega) (by omega) (by omega) t1 m1 m275).mono ?_
    rintro e wC ⟨rfl, B1, hQ1, hK1⟩
    go_wp2_with fail
    refine (shared_any w.heap.size wB.heap.size _ (0 + a) g2 b P _ hQ1 hK1.size (by omega) (by omega) (by omega) (fun q hq => (World.cell?_of_block (a := ⟨g2, q, none⟩) (hK1.block g2 (by omega) (by omega))).trans (t2 q hq)) ((hK1.cell 1 (by omega)).trans m1) ((hK1.cell 275 (by omega)).trans m275)).mono ?_
    rintro e wD ⟨rfl, B2, hQ2, hK2⟩
    have hK := hK1.trans hK2
    have hQ : Queue w.heap.size wB.heap.size B2 (a + b) P wD := by simpa using hQ2
    have sD := hK.size
    have u1 : ∀ q, q < a → wD.cell? ⟨g1, q, none⟩ = some (.pointer (some ⟨P q, 0, none⟩)) := fun q hq => (World.cell?_of_block (a := ⟨g1, q, none⟩) (hK.block g1 (by omega) (by omega))).trans (by simpa using t1 q hq)
    have u2 : ∀ q, q < b → wD.cell? ⟨g2, q, none⟩ = some (.pointer (some ⟨P (a + q), 0, none⟩)) := fun q hq => (World.cell?_of_block (a := ⟨g2, q, none⟩) (hK.block g2 (by omega) (by omega))).trans (by simpa using t2 q hq)
    have n301 := (hK.cell 301 (by omega)).trans m301
    have bD : Below w.heap.size w wD := (hB.trans (bAB.mono (by omega))).trans ⟨hK.os, hK.tape, hK.output, hK.size, fun k hk => hK.block k (by omega) (by omega)⟩
    clear hK1 hK2 hQ1 hQ2 t1 t2 m1 m275 m301 hQ0 hN
    go_upto_region 9 with (at_make; refine wpList_make_own _ rfl _ _ 69 rfl wD.heap.size 37 i0 (.pointer none) 1 Ybad.underlying69 hi hz0 hz1 .i64 .i64 _ (a + b) rfl rfl (by omega) (by rw [hz2]; omega) (by unfold maxLen; omega) (Nat.le_refl _) ?_; intro wE hownE hgrowE)
    have bE : Below wD.heap.size wD wE := (Below.refl _ _).grown hgrowE (Nat.le_refl _) (fun k h => by cases h)
    have v1 : ∀ q, q < a → wE.cell? ⟨g1, q, none⟩ = some (.pointer (some ⟨P q, 0, none⟩)) := fun q hq => (bE.cell (lt_of_cell (u1 q hq))).trans (u1 q hq)
    go_upto_region 10 with (at_builtin; refine wpList_append_fits _ rfl _ _ 69 rfl wD.heap.size 37 i0 1 Ybad.underlying69 hi hz1 wD.heap.size 0 (a + b) [] rfl hownE ⟨g1, 0, none⟩ a a (ptrs a P) rfl (ptrs_length a P) (ptrs_cells v1) ptrs_one (by omega) ?_; intro wF hownF hgrowF)
    simp only [Nat.zero_add, List.nil_append] at hownF
    have bF : Below wD.heap.size wD wF := bE.grown hgrowF (by have := bE.size; omega) (fun k h => by cases h; exact Nat.le_refl _)
    have v2 : ∀ q, q < b → wF.cell? ⟨g2, q, none⟩ = some (.pointer (some ⟨P (a + q), 0, none⟩)) := fun q hq => (bF.cell (lt_of_cell (u2 q hq))).trans (u2 q hq)
    go_upto_region 11 with (at_builtin; refine wpList_append_fits _ rfl _ _ 69 rfl wD.heap.size 37 i0 1 Ybad.underlying69 hi hz1 wD.heap.size a (a + b) (ptrs a P) rfl hownF ⟨g2, 0, none⟩ b b (ptrs b fun q => P (a + q)) rfl (ptrs_length b _) (ptrs_cells v2) ptrs_one (by omega) ?_; intro wG hownG hgrowG)
    have bG : Below wD.heap.size wD wG := bF.grown hgrowG (by have := bF.size; omega) (fun k h => by cases h; exact Nat.le_refl _)
    have hQG := hQ.below bG
    have n301G := (bG.cell (lt_of_cell n301)).trans n301
    have hall : ∀ i, i < a + b → wG.cell? ⟨wD.heap.size, i, none⟩ = some (.pointer (some ⟨P i, 0, none⟩)) := fun i hi => (hownG.cellAt i (by omega)).trans (ptrs_all i hi)
    have bW : Below w.heap.size w wG := bD.trans (bG.mono (by omega))
    clear hownE hownF hownG hgrowE hgrowF hgrowG bE bF bG v1 v2 u1 u2 hQ n301 bD hK
    go_wp2_with fail
    refine (i64Load ⟨w.heap.size, 9, none⟩ ((a + b : Nat) : Int) _ hQG.c9).mono ?_
    rintro e w' ⟨rfl, rfl⟩
    go_wp2_with fail
    have hab : a + b < 1200 := by omega
    have h37 := neq37
    have h32 := neq32
    go_loopw [12, 13] (fun sg i wr => ∃ j : Nat, j ≤ a + b ∧ i = .int .i64 j ∧ sg = .pointer (some ⟨B2 ((j - 1) / 256), so ((j - 1) / 256), none⟩) ∧ Queue w.heap.size wB.heap.size B2 (a + b) P wr ∧ (∀ q, q < a + b → wr.cell? ⟨wD.heap.size, q, none⟩ = some (.pointer (some ⟨P q, 0, none⟩))) ∧ wr.cell? ⟨w.heap.size, 301, none⟩ = some (.int .u64 0) ∧ Below w.heap.size w wr) (fun _ i _ => a + b - (intOf i).toNat)
    case atStart => exact ⟨0, Nat.zero_le _, rfl, by simp [so, hQG.b0], hQG, hall, n301G, bW⟩
    case round =>
      obtain ⟨j, hj, rfl, rfl, hQ, hA, h301, hW⟩ := hrel
      clear hQG hall n301G bW
      by_cases hlt : j < a + b
      · have hseg := hQ.tasks j hlt
        have hAj := hA j hlt
        have HQ : Hid (Queue w.heap.size wB.heap.size B2 (a + b) P wr.drew) := hQ.drew
        have HA : Hid (∀ q, q < a + b → wr.drew.cell? ⟨wD.heap.size, q, none⟩ = some (.pointer (some ⟨P q, 0, none⟩))) := fun q hq => (World.cell?_drew _ _).trans (hA q hq)
        have hj1 : j + 1 - 1 = j := by omega
        by_cases hm : 0 < j ∧ j % 256 = 0
        · obtain ⟨hm0, hm1⟩ := hm
          have hnx := hQ.next ((j - 1) / 256) (by omega)
          rw [show (j - 1) / 256 + 1 = j / 256 by omega] at hnx
          generalize B2 ((j - 1) / 256) = bp at *
          generalize so ((j - 1) / 256) = fp at *
          have HB : Hid (j + 1 - 1 = j) := hj1
          clear hj1 hA hQ
          generalize hbq : B2 (j / 256) = bq at *
          generalize hfq : so (j / 256) = fq at *
          have Hbq : Hid (B2 (j / 256) = bq) := hbq
          have Hfq : Hid (so (j / 256) = fq) := hfq
          clear hbq hfq
          have c1 : (0 : Int) < (j : Int) := by omega
          have c2 : (j : Int) % 256 = 0 := by omega
          have hseg0 : wr.cell? ⟨bq, fq, none⟩ = some (.pointer (some ⟨P j, 0, none⟩)) := by rw [hm1, Nat.add_zero] at hseg; exact hseg
          have c3 : (0 : Int) ≤ (j : Int) % 256 := by omega
          have c4 : (j : Int) % 256 < 256 := by omega
          go_wp2_with fail
          go_region
          all_goals go_wp2_with fail
          go_roundw
          case rel => exact ⟨j + 1, by omega, by go_num, by rw [HB.out, Hbq.out, Hfq.out], HQ.out, HA.out, by simpa using h301, hW.drew⟩
          case measure => simp [intOf]; omega
        · have hjj : (j - 1) / 256 = j / 256 := by omega
          rw [hjj]
          have HB : Hid (j + 1 - 1 = j) := hj1
          clear hj1 hA hQ hjj
          generalize hbq : B2 (j / 256) = bq at *
          generalize hfq : so (j / 256) = fq at *
          have Hbq : Hid (B2 (j / 256) = bq) := hbq
          have Hfq : Hid (so (j / 256) = fq) := hfq
          clear hbq hfq
          have c3 : (0 : Int) ≤ (j : Int) % 256 := by omega
          have c4 : (j : Int) % 256 < 256 := by omega
          by_cases hm0 : j = 0
          · subst hm0
            simp only [Nat.zero_mod, Nat.add_zero] at hseg
            go_wp2_with fail
            go_region
            all_goals go_wp2_with fail
            go_roundw
            case rel => exact ⟨1, by omega, by go_num, by rw [← Hbq.out, ← Hfq.out], HQ.out, HA.out, by simpa using h301, hW.drew⟩
            case measure => simp [intOf]; omega
          · have c1 : (0 : Int) < (j : Int) := by omega
            have c2 : ((j : Int) % 256 == 0) = false := beq_eq_false_iff_ne.2 (by omega)
            go_wp2_with fail
            go_region
            all_goals go_wp2_with fail
            go_roundw
            case rel => exact ⟨j + 1, by omega, by go_num, by rw [HB.out, Hbq.out, Hfq.out], HQ.out, HA.out, by simpa using h301, hW.drew⟩
            case measure => simp [intOf]; omega
      · obtain rfl : j = a + b := by omega
        have k3 := hQ.c3
        have k4 := hQ.c4
        by_cases h0 : a + b = 0
        · obtain rfl : a = 0 := by omega
          obtain rfl : b = 0 := by omega
          simp only [Nat.zero_add, if_true] at k3 k4
          go_wp2_with fail
          refine (u64Load ⟨w.heap.size, 301, none⟩ 0 _ h301).mono ?_
          rintro e w' ⟨rfl, rfl⟩
          go_wp2
          go_ret
          exact ⟨rfl, hW⟩
        · rw [if_neg h0] at k3 k4
          generalize B2 ((a + b - 1) / 256) = bq at *
          generalize so ((a + b - 1) / 256) = fq at *
          rw [show (((a + b - 1) % 256 + 1 : Nat) : Int) = ((a : Int) + (b : Int) - 1) % 256 + 1 by omega] at k4
          have c1 : (0 : Int) < (a : Int) + (b : Int) := by omega
          clear hA hQ
          go_wp2_with fail
          refine (u64Load ⟨w.heap.size, 301, none⟩ 0 _ h301).mono ?_
          rintro e w' ⟨rfl, rfl⟩
          go_wp2
          go_ret
          exact ⟨rfl, hW⟩
end Go.Proofs.YbulkisDoor
