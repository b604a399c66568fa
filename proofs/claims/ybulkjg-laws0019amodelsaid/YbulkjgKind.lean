import Derived.Test.YbulkjgBuild
namespace Go.Proofs.Ybulkjg
open Go.RowKit

/-- What one action makes of what the side holds. -/
def kstep (peer : Bool) (k o : Int) (u : Bool) : Int :=
  if u ≠ peer then k else if o % 11 = 1 then 1 else if o % 11 = 3 then 2 else if o % 11 = 2 ∨ o % 11 = 4 then 0 else k
/-- .. the first j actions. -/
def ka (O : Nat → Int) (U : Nat → Bool) (peer : Bool) (k : Int) : Nat → Int
  | 0 => k
  | j + 1 => kstep peer (ka O U peer k j) (O j) (U j)

theorem ks_other {peer : Bool} {k o : Int} {u : Bool} (h : (!u == peer) = true) : kstep peer k o u = k := by
  unfold kstep; rw [if_pos]; cases u <;> cases peer <;> simp_all
theorem ks_same {peer : Bool} {k o : Int} {u : Bool} (h : (!u == peer) = false) : kstep peer k o u = if o % 11 = 1 then 1 else if o % 11 = 3 then 2 else if o % 11 = 2 ∨ o % 11 = 4 then 0 else k := by
  unfold kstep; rw [if_neg]; cases u <;> cases peer <;> simp_all
theorem ks_copy {peer : Bool} {k o : Int} {u : Bool} (h : (!u == peer) = false) (h1 : (o % 11 == 1) = true) : kstep peer k o u = 1 := by
  rw [ks_same h, if_pos (by simpa using h1)]
theorem ks_mkdir {peer : Bool} {k o : Int} {u : Bool} (h : (!u == peer) = false) (h1 : (o % 11 == 1) = false) (h3 : (o % 11 == 3) = true) : kstep peer k o u = 2 := by
  rw [ks_same h, if_neg (by simpa using h1), if_pos (by simpa using h3)]
theorem ks_gone {peer : Bool} {k o : Int} {u : Bool} (h : (!u == peer) = false) (h1 : (o % 11 == 1) = false) (h3 : (o % 11 == 3) = false) (h2 : o % 11 = 2 ∨ o % 11 = 4) : kstep peer k o u = 0 := by
  rw [ks_same h, if_neg (by simpa using h1), if_neg (by simpa using h3), if_pos h2]
theorem ks_none {peer : Bool} {k o : Int} {u : Bool} (h : (!u == peer) = false) (h1 : (o % 11 == 1) = false) (h3 : (o % 11 == 3) = false) (h2 : (o % 11 == 2) = false ∧ (o % 11 == 4) = false) : kstep peer k o u = k := by
  rw [ks_same h, if_neg (by simpa using h1), if_neg (by simpa using h3), if_neg (by have a := h2.1; have b := h2.2; simp at a b; omega)]
theorem num_u8 {a b : Int} (h : b = a) : Value.int .u8 a = .int .u8 b := by rw [h]

theorem size39 : (Yba.prog.info? 39).map (·.size) = some 39 := by kernel_rfl

theorem setCells_below (B : Nat) (b : Nat) (hb : B ≤ b) : ∀ (vs : List Value) (o : Nat) (a w : World), Below B a w → Below B a (w.setCells b o vs)
  | [], _, _, _, h => h
  | v :: vs, o, a, _, h => setCells_below B b hb vs (o + 1) a _ (h.setCell (p := ⟨b, o, none⟩) hb v)

/-- A new variable of type Action is given one action's cells. -/
theorem store_new {ops : Array Oper} {rest : List Oper} {op : Oper} {a : Act} {Q : Exit → Act → World → Prop} (hgd : op.guard = none) (x y : Operand) (ho : op.op = .store 39 x y) (wr : World) (Z : Array Value) (hZ : Z.size = 39) (o : Int) (u : Bool)
    (hx : a.eval x = .pointer (some ⟨wr.heap.size, 0, none⟩)) (hy : a.eval y = .agg (act o u).toArray)
    (h : ∀ w2, w2.cell? ⟨wr.heap.size, 0, none⟩ = some (.int .u8 (o % 11)) → w2.cell? ⟨wr.heap.size, 1, none⟩ = some (.bool u) → Below wr.heap.size wr w2 → wpList Yba.prog ops Q rest (a.put op.dst undef) w2) : wpList Yba.prog ops Q (op :: rest) a (wr.alloc (.cells Z 39)) := by
  have ht : (wr.alloc (.cells Z 39)).there wr.heap.size 0 39 := fun j hj => by
    rw [Nat.zero_add]
    refine ⟨?_, by simp⟩
    rw [World.cell?_alloc_new, Array.getElem?_eq_getElem (by omega)]
    rfl
  refine wpList_store_mid hgd 39 x y ho wr.heap.size 0 (act o u).toArray hx hy ht size39 (all_oneCell_toArray (act_one o u)) ?_
  have hs := World.rangeAt_setCells_same (wr.alloc (.cells Z 39)) wr.heap.size 0 (act o u) ht
  refine h _ ?_ ?_ ?_
  · simpa using hs 0 _ rfl
  · simpa using hs 1 _ rfl
  · exact setCells_below _ _ (Nat.le_refl _) _ _ _ _ ((Below.refl _ _).alloc (Nat.le_refl _) _)

set_option maxRecDepth 100000 in
set_option maxHeartbeats 1600000 in
theorem kind_any (k : Int) (g n : Nat) (O : Nat → Int) (U : Nat → Bool) (peer : Bool) (hn : n ≤ 1024) (w : World) (hO : ∀ q, q < n → 0 ≤ O q ∧ O q ≤ 255) (hr : ∀ q, q < n → w.rangeAt g (q * 39) (act (O q) (U q))) :
    Calls Yba.prog 6 #[.int .u8 k, .slice (some ⟨g, 0, none⟩) n n, .bool peer] w fun e w' => e = .returned (.int .u8 (ka O U peer k n)) ∧ Below w.heap.size w w' := by
  go_enter Yba.func6, Yba.ntmps6
  go_wp2
  go_loopw [0, 11] (fun s i wr => ∃ j : Nat, j ≤ n ∧ i = .int .i64 j ∧ s = .int .u8 (ka O U peer k j) ∧ Below w.heap.size w wr) (fun _ i _ => n - (intOf i).toNat)
  case atStart => exact ⟨0, Nat.zero_le _, rfl, rfl, Below.refl _ _⟩
  case round =>
    obtain ⟨j, hj, rfl, rfl, hB⟩ := hrel
    by_cases hlt : j < n
    · have hrj : wr.rangeAt g (j * 39) (act (O j) (U j)) := fun i v hv => (hB.cell (lt_of_cell (hr j hlt i v hv))).trans (hr j hlt i v hv)
      obtain ⟨o0, o1⟩ := hO j hlt
      have hst : ka O U peer k (j + 1) = kstep peer (ka O U peer k j) (O j) (U j) := rfl
      have HS : Hid (ka O U peer k (j + 1) = kstep peer (ka O U peer k j) (O j) (U j)) := hst
      clear hst hr hO
      generalize O j = oj at *
      generalize U j = uj at *
      generalize ka O U peer k j = kj at *
      go_upto_region 4 with (first | (refine wpList_load_mid rfl 39 _ rfl g (j * 39) rfl (act oj uj) _ hrj Yba.underlying39 rfl size39 ?_) | (refine store_new rfl _ _ rfl wr _ rfl oj uj rfl rfl ?_; intro w2 f0 f1 hB2))
      have hBW : Below w.heap.size w w2 := hB.trans (hB2.mono hB.size)
      clear hB hB2 hrj
      go_wp2
      · go_roundw
        case rel => exact ⟨j + 1, by omega, by go_num, num_u8 (HS.out.trans (ks_other ‹_›)), hBW⟩
        case measure => simp [intOf]; omega
      · go_roundw
        case rel => exact ⟨j + 1, by omega, by go_num, num_u8 (HS.out.trans (ks_copy ‹_› ‹_›)), hBW⟩
        case measure => simp [intOf]; omega
      · go_roundw
        case rel => exact ⟨j + 1, by omega, by go_num, num_u8 (HS.out.trans (ks_mkdir ‹_› ‹_› ‹_›)), hBW⟩
        case measure => simp [intOf]; omega
      · go_roundw
        case rel => exact ⟨j + 1, by omega, by go_num, num_u8 (HS.out.trans (ks_gone ‹_› ‹_› ‹_› (.inl ‹_›))), hBW⟩
        case measure => simp [intOf]; omega
      · have h24 : (oj % 11 == 2) = true ∨ (oj % 11 == 4) = true := by assumption
        go_roundw
        case rel => exact ⟨j + 1, by omega, by go_num, num_u8 (HS.out.trans (ks_gone ‹_› ‹_› ‹_› (by rcases h24 with h | h <;> simp at h <;> omega))), hBW⟩
        case measure => simp [intOf]; omega
      · go_roundw
        case rel => exact ⟨j + 1, by omega, by go_num, num_u8 (HS.out.trans (ks_none ‹_› ‹_› ‹_› ‹_›)), hBW⟩
        case measure => simp [intOf]; omega
    · obtain rfl : j = n := by omega
      go_wp2
      go_ret
      exact ⟨rfl, hB⟩
end Go.Proofs.Ybulkjg
