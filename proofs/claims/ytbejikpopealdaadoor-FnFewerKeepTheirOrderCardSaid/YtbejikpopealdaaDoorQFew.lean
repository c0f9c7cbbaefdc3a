/-
  Plain law of laws.FnFewerKeepTheirOrder: one index dropped out of the sorted list of indices, the others renumbered, is the sorted list of the rows without that one; no program is run here.
-/
import Derived.Test.YtbejikpopealdaaDoorQSpecJ
import Derived.Test.YtbejikpopealdaaDoorQTwo
import Derived.Deep.RegionHeld3
namespace Go.Proofs.YtbejikpopealdaaDoor
open Go.RowKit Go.Sort

/-- Where an index lies once k is gone. -/
def ren (k x : Nat) : Option Nat := if x < k then some x else if k < x then some (x - 1) else none
def upK (k x : Nat) : Nat := if x < k then x else x + 1
theorem ren_some {k x y : Nat} (h : ren k x = some y) : x = upK k y := by
  unfold ren at h
  unfold upK
  by_cases h1 : x < k
  · rw [if_pos h1] at h; cases h; rw [if_pos h1]
  · rw [if_neg h1] at h
    by_cases h2 : k < x
    · rw [if_pos h2] at h; cases h
      rw [if_neg (by omega)]; omega
    · rw [if_neg h2] at h; cases h
theorem range_ren (k n : Nat) : (List.range n).filterMap (ren k) = List.range (if n ≤ k then n else n - 1) := by
  induction n with
  | zero => simp
  | succ n ih =>
    rw [List.range_succ, List.filterMap_append, ih]
    by_cases h : n < k
    · rw [if_pos (by omega), if_pos (by omega), List.range_succ]
      simp [ren, h]
    · by_cases h2 : n = k
      · subst h2
        rw [if_pos (Nat.le_refl _), if_neg (by omega)]
        simp [ren]
      · rw [if_neg (by omega), if_neg (by omega)]
        obtain ⟨m, rfl⟩ : ∃ m, n = m + 1 := ⟨n - 1, by omega⟩
        have e1 : ¬ m + 1 < k := by omega
        have e2 : k < m + 1 := by omega
        simp only [Nat.add_sub_cancel, List.range_succ]
        simp [ren, e1, e2]
theorem keyP_erase (PA : List (List Int × List Int)) (k x : Nat) : keyP (PA.eraseIdx k) x = keyP PA (upK k x) := by
  unfold keyP upK
  rw [List.getElem?_eraseIdx]
  by_cases h : x < k
  · rw [if_pos h, if_pos h]
  · rw [if_neg h, if_neg h]
theorem ordd_erase {PA : List (List Int × List Int)} {n k : Nat} {xs : List Nat} (h : Ordd (cfP PA) n xs) (hk : k < n) : Ordd (cfP (PA.eraseIdx k)) (n - 1) (xs.filterMap (ren k)) := by
  obtain ⟨h1, h2⟩ := h
  refine ⟨?_, ?_⟩
  · have := h1.filterMap (ren k)
    rwa [range_ren, if_neg (by omega)] at this
  · rw [List.pairwise_filterMap]
    refine h2.imp fun {x y} hs b hb b' hb' => ?_
    obtain rfl := ren_some hb
    obtain rfl := ren_some hb'
    unfold Sb cfP at hs ⊢
    rw [keyP_erase, keyP_erase]
    rcases hs with hs | ⟨hs, hl⟩
    · exact Or.inl hs
    · refine Or.inr ⟨hs, ?_⟩
      unfold upK at hl
      split at hl <;> split at hl <;> omega
theorem zip_erase {α β : Type} : ∀ (k : Nat) (l : List α) (l' : List β), (l.eraseIdx k).zip (l'.eraseIdx k) = (l.zip l').eraseIdx k
  | _, [], _ => by simp
  | k, a :: l, [] => by simp
  | 0, a :: l, b :: l' => by simp
  | k + 1, a :: l, b :: l' => by simp [zip_erase k l l']
theorem map_erase {α β : Type} (f : α → β) : ∀ (k : Nat) (l : List α), (l.eraseIdx k).map f = (l.map f).eraseIdx k
  | _, [] => by simp
  | 0, a :: l => by simp
  | k + 1, a :: l => by simp [map_erase f k l]
theorem pairsB_erase (rA rS : List (Option Addr × List Int × Nat)) (k : Nat) : pairsB (rA.eraseIdx k) (rS.eraseIdx k) = (pairsB rA rS).eraseIdx k := by
  unfold pairsB
  rw [map_erase, map_erase, zip_erase]

/-! ### the rows that are left, as the loop builds them -/
def dropK (k i : Nat) (l : List (Option Addr × List Int × Nat)) : List (Option Addr × List Int × Nat) := (l.take i).eraseIdx k
theorem dropK_same {k : Nat} {l : List (Option Addr × List Int × Nat)} : dropK k (k + 1) l = dropK k k l := by
  unfold dropK
  rw [List.eraseIdx_of_length_le (l := l.take k) (by simp; omega)]
  rw [List.eraseIdx_eq_take_drop_succ, List.take_take, List.drop_eq_nil_of_le (by simp; omega), Nat.min_eq_left (by omega), List.append_nil]
theorem dropK_snoc {k i : Nat} {l : List (Option Addr × List Int × Nat)} {r : Option Addr × List Int × Nat} (h : l[i]? = some r) (hk : i ≠ k) : dropK k (i + 1) l = dropK k i l ++ [r] := by
  have hl : i < l.length := by
    rcases Nat.lt_or_ge i l.length with h' | h'
    · exact h'
    · rw [List.getElem?_eq_none h'] at h; cases h
  unfold dropK
  rw [List.take_add_one, h, Option.toList_some]
  by_cases e : k < i
  · rw [List.eraseIdx_append_of_lt_length (by simp; omega)]
  · rw [List.eraseIdx_of_length_le (by simp; omega), List.eraseIdx_of_length_le (by simp; omega)]
theorem dropK_len {k i : Nat} {l : List (Option Addr × List Int × Nat)} (h : i ≤ l.length) : (dropK k i l).length = if i ≤ k then i else i - 1 := by
  unfold dropK
  by_cases e : i ≤ k
  · rw [if_pos e, List.eraseIdx_of_length_le (by simp; omega)]
    simp; omega
  · rw [if_neg e, List.length_eraseIdx, if_pos (by simp; omega)]
    simp; omega
theorem dropK_all {k n : Nat} {l : List (Option Addr × List Int × Nat)} (h : l.length = n) : dropK k n l = l.eraseIdx k := by
  unfold dropK
  rw [List.take_of_length_le (by omega)]
end Go.Proofs.YtbejikpopealdaaDoor
/-
  What the loops of laws.FnFewerKeepTheirOrder keep: the two rows that are left, and the renumbered indices; no program is run here.
-/
namespace Go.Proofs.YtbejikpopealdaaDoor
open Go.RowKit Go.Sort

def rowsV (l : List (Option Addr × List Int × Nat)) : List Value := l.map fun r => Value.slice r.1 r.2.1.length r.2.2
theorem rowsV_snoc (l : List (Option Addr × List Int × Nat)) (r : Option Addr × List Int × Nat) : rowsV (l ++ [r]) = rowsV l ++ [.slice r.1 r.2.1.length r.2.2] := by
  unfold rowsV; rw [List.map_append]; rfl
/-- How many rows are left ahead of i. -/
def cntK (k i : Nat) : Nat := if i ≤ k then i else i - 1
def LoopF (k : Nat) (rA rS : List (Option Addr × List Int × Nat)) (w : World) (i : Nat) (v u : Value) (W : World) : Prop :=
  Below w.heap.size w W ∧ W.ownsRow w.heap.size 22 1 v (cntK k i) (rowsV (dropK k i rA)) ∧ W.ownsRow w.heap.size 22 1 u (cntK k i) (rowsV (dropK k i rS)) ∧ (v.ownBlock = none ∨ v.ownBlock ≠ u.ownBlock)
theorem LoopF.start (k : Nat) (rA rS : List (Option Addr × List Int × Nat)) (w : World) : LoopF k rA rS w 0 (.slice none 0 0) (.slice none 0 0) w := by
  have e : ∀ l : List (Option Addr × List Int × Nat), rowsV (dropK k 0 l) = [] := fun l => by simp [dropK, rowsV]
  unfold LoopF
  rw [e, e, show cntK k 0 = 0 from rfl]
  exact ⟨Below.refl _ _, World.ownsRow_nil _ _ _ _, World.ownsRow_nil _ _ _ _, Or.inl rfl⟩
theorem LoopF.skip {k : Nat} {rA rS : List (Option Addr × List Int × Nat)} {w W W' : World} {v u : Value} (h : LoopF k rA rS w k v u W) (g : Below W.heap.size W W') : LoopF k rA rS w (k + 1) v u W' := by
  obtain ⟨h1, h2, h3, h4⟩ := h
  have e : cntK k (k + 1) = cntK k k := by unfold cntK; rw [if_neg (by omega), if_pos (Nat.le_refl _)]; rfl
  unfold LoopF
  rw [dropK_same, dropK_same, e]
  exact ⟨h1.trans (g.mono h1.size), own_none h2 (below_none g), own_none h3 (below_none g), h4⟩

/-! ### worlds on top of one another -/
theorem gn_refl (w : World) : w.grownBy w none := ⟨rfl, rfl, rfl, Nat.le_refl _, fun _ _ _ => rfl⟩
theorem gn_drew {w w' : World} (h : w.grownBy w' none) : w.grownBy w'.drew none := ⟨h.os, h.tape, h.output, h.size, h.block⟩
theorem gn_alloc {w w' : World} (h : w.grownBy w' none) (o : Obj) : w.grownBy (w'.alloc o) none :=
  ⟨h.os, h.tape, h.output, Nat.le_trans h.size (by rw [alloc_size]; omega), fun k hk hn => by rw [alloc_old _ _ _ (Nat.lt_of_lt_of_le hk h.size)]; exact h.block k hk hn⟩
theorem drew_heap (w : World) : w.drew.heap = w.heap := rfl

/-- Two appends, one behind the other, to two rows that lie apart. -/
theorem two_apps {base : Nat} {e : TypeId} {size : Nat} {w0 W0 W1 w1 W2 w2 : World} {v u : Value} {m : Nat} {xs ys xs' ys' : List Value} {g1 c1 g2 c2 H1 H2 m' : Nat} (hb : base = w0.heap.size) (B0 : Below base w0 W0)
    (ov : W0.ownsRow base e size v m xs) (ou : W0.ownsRow base e size u m ys) (d : v.ownBlock = none ∨ v.ownBlock ≠ u.ownBlock)
    (q0 : W0.grownBy W1 none) (hH1 : W1.heap.size = H1) (o1 : w1.ownsRow base e size (.slice (some ⟨g1, 0, none⟩) m' c1) m' xs') (q1 : W1.grownBy w1 v.ownBlock) (e1 : v.ownBlock = some g1 ∨ g1 = H1) (l1 : g1 < w1.heap.size)
    (q : w1.grownBy W2 none) (hH2 : W2.heap.size = H2) (o2 : w2.ownsRow base e size (.slice (some ⟨g2, 0, none⟩) m' c2) m' ys') (q2 : W2.grownBy w2 u.ownBlock) (e2 : u.ownBlock = some g2 ∨ g2 = H2) :
    Below base w0 w2 ∧ w2.ownsRow base e size (.slice (some ⟨g1, 0, none⟩) m' c1) m' xs' ∧ g1 ≠ g2 := by
  have lv : ∀ k, v.ownBlock = some k → base ≤ k ∧ k < W0.heap.size := fun k hk => own_ge ov hk
  have lu : ∀ k, u.ownBlock = some k → base ≤ k ∧ k < W0.heap.size := fun k hk => own_ge ou hk
  have s0 := q0.size
  have s1 := q1.size
  have s2 := q.size
  have n1 : some g1 ≠ u.ownBlock := by
    rcases e1 with h | h
    · rw [← h]
      rcases d with d | d
      · rw [d] at h; cases h
      · exact d
    · intro h'
      have := (lu g1 h'.symm).2
      omega
  have hb0 := B0.size
  refine ⟨?_, ?_, ?_⟩
  · have a1 := below_grown B0 q0 (by omega) (fun k hk => by cases hk)
    have a2 := below_grown a1 q1 (by omega) (fun k hk => (lv k hk).1)
    have a3 := below_grown a2 q (by omega) (fun k hk => by cases hk)
    exact below_grown a3 q2 (by omega) (fun k hk => (lu k hk).1)
  · exact (own_none o1 q).kept q2 (Or.inr n1)
  · rcases e2 with h | h
    · intro h'; subst h'; exact n1 h.symm
    · omega
theorem cell_grow {W W' : World} {row : Option Nat} {a : Addr} {x : Value} (q : W.grownBy W' row) (h : W.cell? a = some x) (hne : some a.block ≠ row) : W'.cell? a = some x := by
  rw [q.cell_far a (World.block_lt_of_cell? _ _ h) hne]; exact h
theorem row_ne {W : World} {base : Nat} {e : TypeId} {size : Nat} {v : Value} {n : Nat} {xs : List Value} (h : W.ownsRow base e size v n xs) {b : Nat} (hb : b < base) : some b ≠ v.ownBlock := by
  intro h'
  have := (own_ge h h'.symm).1
  omega
theorem cntK_le {k i n : Nat} (h : i ≤ n) : cntK k i ≤ n := by unfold cntK; split <;> omega
theorem cntK_step {k i : Nat} (h : i ≠ k) : cntK k (i + 1) = cntK k i + 1 := by
  unfold cntK
  by_cases e : i ≤ k
  · rw [if_pos (by omega), if_pos e]
  · rw [if_neg (by omega), if_neg e]; omega
end Go.Proofs.YtbejikpopealdaaDoor
/-
  What the rest of laws.FnFewerKeepTheirOrder keeps: the rows that are left as arguments, the indices that are wanted, and the one row that the call lays itself; no program is run here.
-/
namespace Go.Proofs.YtbejikpopealdaaDoor
open Go.RowKit Go.Sort

theorem rowsV_at {rs : List (Option Addr × List Int × Nat)} {i : Nat} {r : Option Addr × List Int × Nat} (h : rs[i]? = some r) : (rowsV rs)[i]? = some (.slice r.1 r.2.1.length r.2.2) := by
  unfold rowsV
  rw [List.getElem?_map, h]
  rfl
/-- A row of rows that the loop has built is an argument of rows. -/
theorem rows_own {W : World} {base m : Nat} {v : Value} {rs : List (Option Addr × List Int × Nat)} (hr : ∀ r ∈ rs, r.2.1.length ≤ r.2.2 ∧ r.2.2 ≤ maxLen ∧ HoldsB W r.1 r.2.1) (h : W.ownsRow base 22 1 v m (rowsV rs)) (hl : rs.length = m) :
    ∃ a c, v = .slice a m c ∧ HoldsBB W a rs := by
  subst hl
  rcases h.2 with ⟨rfl, h0⟩ | ⟨g, cap, cur, rfl, h4, h5, h6, _⟩
  · have : rs = [] := List.eq_nil_of_length_eq_zero h0
    subst this
    exact ⟨none, 0, rfl, hr, Or.inl rfl⟩
  · refine ⟨_, cap, rfl, hr, Or.inr ⟨g, 0, rfl, (own_ge h rfl).2, fun i x hx => ?_⟩⟩
    have hi : i < rs.length := by
      rcases Nat.lt_or_ge i rs.length with h' | h'
      · exact h'
      · rw [List.getElem?_eq_none h'] at hx; cases hx
    rw [Nat.zero_add, h.cellAt i (by omega), rowsV_at hx]
theorem cntK_end {k n m : Nat} (h : k < n) (hm : m = n - 1) : cntK k n = m := by unfold cntK; rw [if_neg (by omega), hm]
/-- What loop 1 leaves behind. -/
theorem LoopF.done {k n m : Nat} {rA rS : List (Option Addr × List Int × Nat)} {w W : World} {v u : Value} {a a' : Option Addr} (h : LoopF k rA rS w n v u W) (hk : k < n) (hm : m = n - 1) (hA : rA.length = n) (hS : rS.length = n) (HA : HoldsBB w a rA) (HS : HoldsBB w a' rS) :
    ∃ b c b' c', v = .slice b m c ∧ u = .slice b' m c' ∧ HoldsBB W b (rA.eraseIdx k) ∧ HoldsBB W b' (rS.eraseIdx k) := by
  obtain ⟨h1, h2, h3, _⟩ := h
  rw [cntK_end hk hm, dropK_all hA] at h2
  rw [cntK_end hk hm, dropK_all hS] at h3
  have HA2 := HA.below h1
  have HS2 := HS.below h1
  obtain ⟨b, c, e1, q1⟩ := rows_own (fun r hr => HA2.1 r (List.mem_of_mem_eraseIdx hr)) h2 (by rw [List.length_eraseIdx, hA, if_pos hk, hm])
  obtain ⟨b', c', e2, q2⟩ := rows_own (fun r hr => HS2.1 r (List.mem_of_mem_eraseIdx hr)) h3 (by rw [List.length_eraseIdx, hS, if_pos hk, hm])
  exact ⟨b, c, b', c', e1, e2, q1, q2⟩

/-! ### the indices that are wanted -/
def LoopW (k : Nat) (xs : List Nat) (w : World) (j : Nat) (v : Value) (W : World) : Prop :=
  Below w.heap.size w W ∧ W.ownsRow w.heap.size 3 1 v ((xs.take j).filterMap (ren k)).length (intsV ((xs.take j).filterMap (ren k)))
theorem LoopW.start (k : Nat) (xs : List Nat) (w : World) : LoopW k xs w 0 (.slice none 0 0) w := ⟨Below.refl _ _, World.ownsRow_nil _ _ _ _⟩
theorem ren_take {k j x y : Nat} {xs : List Nat} (hx : xs[j]? = some x) (hy : ren k x = some y) : (xs.take (j + 1)).filterMap (ren k) = (xs.take j).filterMap (ren k) ++ [y] := by
  rw [List.take_add_one, hx, List.filterMap_append]
  simp [hy]
theorem ren_skip {k j x : Nat} {xs : List Nat} (hx : xs[j]? = some x) (hy : ren k x = none) : (xs.take (j + 1)).filterMap (ren k) = (xs.take j).filterMap (ren k) := by
  rw [List.take_add_one, hx, List.filterMap_append]
  simp [hy]
theorem ren_len {k j n : Nat} {xs : List Nat} (h : xs.length = n) : ((xs.take j).filterMap (ren k)).length ≤ n := by
  refine Nat.le_trans (List.length_filterMap_le _ _) ?_
  rw [List.length_take]; omega
theorem LoopW.step {k j x y : Nat} {xs : List Nat} {w W : World} {v' : Value} (hx : xs[j]? = some x) (hy : ren k x = some y) (B : Below w.heap.size w W)
    (ho : W.ownsRow w.heap.size 3 1 v' (((xs.take j).filterMap (ren k)).length + 1) (intsV ((xs.take j).filterMap (ren k)) ++ [.int .i64 (y : Int)])) : LoopW k xs w (j + 1) v' W := by
  unfold LoopW
  rw [ren_take hx hy]
  refine ⟨B, ?_⟩
  have e : intsV ((xs.take j).filterMap (ren k) ++ [y]) = intsV ((xs.take j).filterMap (ren k)) ++ [.int .i64 (y : Int)] := by unfold intsV; rw [List.map_append]; rfl
  rw [e, List.length_append]
  exact ho
theorem LoopW.skip {k j x : Nat} {xs : List Nat} {w W : World} {v : Value} (h : LoopW k xs w j v W) (hx : xs[j]? = some x) (hy : ren k x = none) : LoopW k xs w (j + 1) v W := by
  unfold LoopW
  rw [ren_skip hx hy]
  exact h
theorem ren_lt {k x : Nat} (h : x < k) : ren k x = some x := by unfold ren; rw [if_pos h]
theorem ren_gt {k x : Nat} (h : k < x) : ren k x = some (x - 1) := by unfold ren; rw [if_neg (by omega), if_pos h]
theorem ren_eq {k : Nat} : ren k k = none := by unfold ren; rw [if_neg (by omega), if_neg (by omega)]
/-- What loop 2 leaves behind. -/
theorem LoopW.done {PA : List (List Int × List Int)} {k n m : Nat} {xs : List Nat} {w W : World} {v : Value} (h : LoopW k xs w n v W) (hX : Ordd (cfP PA) n xs) (hk : k < n) (hm : m = n - 1) :
    ∃ a c, v = .slice a m c ∧ HoldsI W (.slice a m c) (xs.filterMap (ren k)) ∧ (xs.filterMap (ren k)).length = m := by
  obtain ⟨h1, h2⟩ := h
  have hl : xs.length = n := by have := hX.1.length_eq; simpa using this
  rw [List.take_of_length_le (by omega)] at h2
  have hl2 : (xs.filterMap (ren k)).length = m := by have := (ordd_erase hX hk).1.length_eq; rw [List.length_range] at this; omega
  have hI := ownI_holds h2 rfl
  obtain ⟨a, c, e, _⟩ := id hI
  rw [hl2] at e
  subst e
  exact ⟨a, c, rfl, hI, hl2⟩
/-- The order of the rows that are left is what is wanted. -/
theorem few_end {PA : List (List Int × List Int)} {rA rS : List (Option Addr × List Int × Nat)} {k n m : Nat} {xs : List Nat} {W w' : World} {e : Ending} (hP : PA = pairsB rA rS) (hX : Ordd (cfP PA) n xs) (hk : k < n) (hm : m = n - 1)
    (h : OrdEnd (pairsB (rA.eraseIdx k) (rS.eraseIdx k)) m W e w') : ∃ av cv, e = .returned (.slice av m cv) ∧ HoldsI w' (.slice av m cv) (xs.filterMap (ren k)) ∧ Below W.heap.size W w' := by
  obtain ⟨av, cv, ys, I, rfl, r1, r2, r6, r3, r4, r5⟩ := h.form
  rw [pairsB_erase, ← hP] at r1
  have hY : Ordd (cfP (PA.eraseIdx k)) m ys := by rwa [cfI_P r1] at r2
  obtain rfl : ys = xs.filterMap (ren k) := Ordd.unique (cfP_pre _) hY (by rw [hm]; exact ordd_erase hX hk)
  exact ⟨av, cv, rfl, r3, r5⟩
theorem same_self (v v' : Value) (xs : List Nat) (w : World) (h : HoldsI w v xs) (h' : HoldsI w v' xs) (hx : xs.length ≤ 1000000) : Calls Tryd.prog 24 #[v, v'] w fun e w' => e = .returned (.bool true) ∧ Below w.heap.size w w' := by
  refine (same_any v v' xs xs w h h' hx hx).mono ?_
  rintro e w' ⟨rfl, q, rfl⟩
  exact ⟨by simp [sameB], ⟨rfl, rfl, rfl, Nat.le_refl _, fun _ _ => rfl⟩⟩

/-! ### the row that the call lays itself -/
theorem one_row {W : World} {g : Nat} {r : Option Addr × List Int × Nat} (hg : W.heap[g]? = some (.cells #[.slice r.1 r.2.1.length r.2.2] 22 (0, 0))) (h1 : r.2.1.length ≤ r.2.2 ∧ r.2.2 ≤ maxLen ∧ HoldsB W r.1 r.2.1) : HoldsBB W (some ⟨g, 0, none⟩) [r] := by
  refine ⟨fun q hq => ?_, Or.inr ⟨g, 0, rfl, blk_lt hg, fun i q hq => ?_⟩⟩
  · obtain rfl := List.mem_singleton.1 hq
    exact h1
  · rw [Nat.zero_add, cell_of_row W g i _ 22 (0, 0) hg]
    match i with
    | 0 => simp at hq; subst hq; rfl
    | i + 1 => simp at hq
theorem one_int {W : World} {g x : Nat} (hg : W.heap[g]? = some (.cells #[.int .i64 (x : Int)] 3 (0, 0))) : HoldsI W (.slice (some ⟨g, 0, none⟩) 1 1) [x] := by
  refine ⟨_, 1, rfl, Nat.le_refl _, Or.inr ⟨g, 0, rfl, blk_lt hg, fun i q hq => ?_⟩⟩
  rw [Nat.zero_add, cell_of_row W g i _ 3 (0, 0) hg]
  match i with
  | 0 => simp at hq; subst hq; rfl
  | i + 1 => simp at hq
theorem four_bytes {W : World} {g : Nat} (hg : W.heap[g]? = some (.cells #[.int .u8 127, .int .u8 0, .int .u8 0, .int .u8 1] 5 (0, 0))) : HoldsB W (some ⟨g, 0, none⟩) [127, 0, 0, 1] := by
  refine ⟨fun z hz => ?_, Or.inr ⟨g, 0, rfl, blk_lt hg, fun i hi => ?_⟩⟩
  · simp only [List.mem_cons, List.not_mem_nil, or_false] at hz
    unfold Byt
    omega
  rw [Nat.zero_add, cell_of_row W g i _ 5 (0, 0) hg]
  match i with
  | 0 => rfl
  | 1 => rfl
  | 2 => rfl
  | 3 => rfl
  | i + 4 => exact absurd hi (by simp)
theorem no_bytes (W : World) : HoldsB W none [] := ⟨by simp, Or.inl rfl⟩
theorem ordd_one (cf : Nat → Nat → Int) : Ordd cf 1 [0] := ⟨List.Perm.refl _, List.pairwise_singleton _ _⟩
set_option maxRecDepth 100000 in
/-- The order of the one row. -/
theorem one_call (p4 p6 : Addr) (w wc W : World) (E : EnvO p4 p6 w) (G : Below w.heap.size w wc)
    (hW : W = ((wc.alloc (.cells #[.int .u8 127, .int .u8 0, .int .u8 0, .int .u8 1] 5 (0, 0))).alloc (.cells #[.slice (some ⟨wc.heap.size, 0, none⟩) 4 4] 22 (0, 0))).alloc (.cells #[.slice none 0 0] 22 (0, 0))) :
    Calls Tryd.prog 22 #[.slice (some ⟨wc.heap.size + 1, 0, none⟩) 1 1, .slice (some ⟨wc.heap.size + 1 + 1, 0, none⟩) 1 1] W fun e w' => ∃ av cv, e = .returned (.slice av 1 cv) ∧ HoldsI w' (.slice av 1 cv) [0] ∧ Below w.heap.size w w' := by
  obtain ⟨L1, L2, L3, L4, L5⟩ := laid3 w wc G _ _ _ W hW
  have A1 : HoldsBB W (some ⟨wc.heap.size + 1, 0, none⟩) [(some ⟨wc.heap.size, 0, none⟩, [127, 0, 0, 1], 4)] := one_row L3 ⟨Nat.le_refl 4, (by decide : 4 ≤ maxLen), four_bytes L2⟩
  have A2 : HoldsBB W (some ⟨wc.heap.size + 1 + 1, 0, none⟩) [(none, [], 0)] := one_row L4 ⟨Nat.le_refl 0, (by decide : 0 ≤ maxLen), no_bytes W⟩
  refine (implOrder p4 p6 _ _ _ _ 1 1 1 rfl rfl (by decide) W (E.below L1) A1 A2 (fun r hr => by obtain rfl := List.mem_singleton.1 hr; rfl)).mono ?_
  intro e w' h
  obtain ⟨av, cv, ys, I, rfl, r1, r2, r6, r3, r4, r5⟩ := h.form
  have hY : Ordd (cfP (pairsB [(some ⟨wc.heap.size, 0, none⟩, [127, 0, 0, 1], 4)] [(none, [], 0)])) 1 ys := by rwa [cfI_P r1] at r2
  obtain rfl : ys = [0] := Ordd.unique (cfP_pre _) hY (ordd_one _)
  exact ⟨av, cv, rfl, r3, L1.trans (r5.mono L1.size)⟩
end Go.Proofs.YtbejikpopealdaaDoor
/-
  laws.FnFewerKeepTheirOrder, walked: whatever the two arguments and the index, the call returns true and nothing that was there has turned.
-/
namespace Go.Proofs.YtbejikpopealdaaDoor
open Go.RowKit Go.Sort

theorem Tryd.info22 : (Tryd.prog.info? 22).map (fun i => (i.zero, i.size, i.bytes)) = some (some (.slice none 0 0), 1, 24) := by kernel_rfl

theorem own_far {v : Value} {N B : Nat} (h : ∀ x, v.ownBlock = some x → x < N) (hB : N ≤ B) : some B ≠ v.ownBlock := fun e => by
  have := h _ e.symm
  omega

theorem one_same {w : World} {v : Value} (h : HoldsI w v [0]) :
    Calls Tryd.prog 24 #[v, .slice (some ⟨w.heap.size, 0, none⟩) 1 1] (w.alloc (.cells #[.int .i64 0] 3 (0, 0))) fun e w' => e = .returned (.bool true) ∧ Below (w.alloc (.cells #[.int .i64 0] 3 (0, 0))).heap.size (w.alloc (.cells #[.int .i64 0] 3 (0, 0))) w' :=
  same_self v _ [0] _ (h.below ((Below.refl _ _).alloc (Nat.le_refl _) _)) (one_int (x := 0) (heap_alloc_new w _)) (by decide)

set_option maxHeartbeats 8000000 in
set_option maxRecDepth 1000000 in
theorem few_main (p4 p6 : Addr) (a a' : Option Addr) (rA rS : List (Option Addr × List Int × Nat)) (c c' n k : Nat) (hA : rA.length = n) (hS : rS.length = n) (hn1 : n ≤ 1000) (hk : k < n) (w : World) (E : EnvO p4 p6 w) (HA : HoldsBB w a rA) (HS : HoldsBB w a' rS) (F1 : fitsB rA = true) (F2 : fitsB rS = true) :
    Calls Tryd.prog 8 #[.slice a n c, .slice a' n c', .int .i64 (k : Int)] w fun e w' => e = .returned (.bool true) ∧ Below w.heap.size w w' := by
  obtain ⟨i22, hi22, hz22, hs22, hb22⟩ := info_parts Tryd.info22
  have I22 := Lib.hid (And.intro hi22 (And.intro hz22 (And.intro hs22 hb22)))
  obtain ⟨i3, hi3, hz3, hs3, hb3⟩ := info_parts Tryd.info3
  have I3 := Lib.hid (And.intro hi3 (And.intro hz3 (And.intro hs3 hb3)))
  have Z1 := zzFits_any a rA c w HA (by unfold maxLen; omega)
  have Z2 := zzFits_any a' rS c' w HS (by unfold maxLen; omega)
  rw [F1, hA] at Z1
  rw [F2, hS] at Z2
  have ZF1 := Lib.hid Z1
  have ZF2 := Lib.hid Z2
  have HHA := Lib.hid HA
  have HHS := Lib.hid HS
  have EE := Lib.hid E
  have HLA := Lib.hid hA
  have HLS := Lib.hid hS
  have nn : ((n : Int) != (n : Int)) = false := by simp
  have n1000 : ¬ (1000 : Int) < (n : Int) := by omega
  have k0 : ¬ (k : Int) < 0 := by omega
  have kn : (k : Int) < (n : Int) := by omega
  have kn2 : ¬ (n : Int) ≤ (k : Int) := by omega
  have kdec : decide (n ≤ k) = false := by simp; omega
  have hm := mixedT
  have OK0 : Hid ((∀ (k : Nat) (r r' : Option Addr × List Int × Nat), k < 0 → rA[k]? = some r → rS[k]? = some r' → clearB r.2.1 r'.2.1 = true) ∧ LoopF k rA rS w 0 (.slice none 0 0) (.slice none 0 0) w) := ⟨fun k r r' hk => absurd hk (Nat.not_lt_zero _), LoopF.start k rA rS w⟩
  clear Z1 Z2 HA HS E hA hS F1 F2 hi22 hz22 hs22 hb22 hi3 hz3 hs3 hb3
  go_enter Tryd.func8, Tryd.ntmps8
  go_wp2_with (first | (go_at_call 21; ((with_reducible refine ZF1.out.mono ?_); rintro e w1 ⟨rfl, rfl⟩)) | (go_at_call 21; ((with_reducible refine ZF2.out.mono ?_); rintro e w1 ⟨rfl, rfl⟩)))
  obtain ⟨wo, hwo⟩ : ∃ wo : World, wo = w := ⟨_, rfl⟩
  go_loopg [7, 8, 43] n (fun kx s7 s8 s43 wr => ∃ (i : Nat), s43 = .int .i64 i ∧ i ≤ n ∧ n - i ≤ kx ∧ Hid ((∀ (j : Nat) (r r' : Option Addr × List Int × Nat), j < i → rA[j]? = some r → rS[j]? = some r' → clearB r.2.1 r'.2.1 = true) ∧ LoopF k rA rS w i s7 s8 wr))
  case atStart => exact ⟨0, by go_num, Nat.zero_le _, by omega, OK0⟩
  case round =>
    clear OK0
    obtain ⟨i, rfl, hin, hkx, HOK⟩ := hrel
    by_cases hi : i < n
    · have hiz : (i : Int) < (n : Int) := by omega
      have hiz0 : (0 : Int) ≤ (i : Int) := by omega
      obtain ⟨r, hr⟩ : ∃ r, rA[i]? = some r := ⟨rA[i]'(by have := HLA.out; omega), List.getElem?_eq_getElem _⟩
      obtain ⟨r', hr'⟩ : ∃ r, rS[i]? = some r := ⟨rS[i]'(by have := HLS.out; omega), List.getElem?_eq_getElem _⟩
      have hg := HOK.out.2.1
      have HA2 := HHA.out.below hg
      have HS2 := HHS.out.below hg
      obtain ⟨b, off, rfl, c0, m0⟩ := bb_cell HA2 hr
      obtain ⟨b', off', rfl, c1, m1⟩ := bb_cell HS2 hr'
      have lb : b < wr.heap.size := World.block_lt_of_cell? _ _ c0
      have lb' : b' < wr.heap.size := World.block_lt_of_cell? _ _ c1
      have d0 := fun n os => cell_grown (w := wr) (n := n) (os := os) (a := ⟨b, off + i, none⟩) lb c0
      have d1 := fun n os => cell_grown (w := wr) (n := n) (os := os) (a := ⟨b', off' + i, none⟩) lb' c1
      have hz := (HA2.1 r (List.mem_of_getElem? hr)).2.2
      have hy := (HS2.1 r' (List.mem_of_getElem? hr')).2.2
      have CL := Lib.hid (fun W (g : Gr wr W) => clear_any r.1 r'.1 r.2.1 r'.2.1 r.2.2 r'.2.2 W (hz.gr g) (hy.gr g))
      have NXT : Hid (clearB r.2.1 r'.2.1 = true → ∀ (j : Nat) (q q' : Option Addr × List Int × Nat), j < i + 1 → rA[j]? = some q → rS[j]? = some q' → clearB q.2.1 q'.2.1 = true) := by
        intro ho j q q' hj h1 h2
        by_cases e : j = i
        · subst e
          rw [hr] at h1; rw [hr'] at h2
          cases h1; cases h2; exact ho
        · exact HOK.out.1 j q q' (by omega) h1 h2
      have lw : b < w.heap.size := by obtain ⟨_, _, e, q, _⟩ := bb_cell HHA.out hr; cases e; exact World.block_lt_of_cell? _ _ q
      have lw' : b' < w.heap.size := by obtain ⟨_, _, e, q, _⟩ := bb_cell HHS.out hr'; cases e; exact World.block_lt_of_cell? _ _ q
      have NE := Lib.hid (And.intro (And.intro (row_ne HOK.out.2.2.1 lw) (row_ne HOK.out.2.2.1 lw')) (And.intro (row_ne HOK.out.2.2.2.1 lw) (row_ne HOK.out.2.2.2.1 lw')))
      have HGW := Lib.hid hg
      have HLF := Lib.hid HOK.out.2
      have ST := Lib.hid (fun (h : i ≠ k) => And.intro (by rw [dropK_snoc hr h, rowsV_snoc] : rowsV (dropK k (i + 1) rA) = rowsV (dropK k i rA) ++ [.slice r.1 r.2.1.length r.2.2]) (by rw [dropK_snoc hr' h, rowsV_snoc] : rowsV (dropK k (i + 1) rS) = rowsV (dropK k i rS) ++ [.slice r'.1 r'.2.1.length r'.2.2]))
      clear hr hr' hz hy hg HA2 HS2 HOK lw lw'
      generalize clearB r.2.1 r'.2.1 = cl at *
      generalize r.2.1.length = zl at *
      generalize r'.2.1.length = yl at *
      generalize r.1 = ra at *
      generalize r'.1 = ra' at *
      generalize r.2.2 = rc at *
      generalize r'.2.2 = rc' at *
      cases cl
      · go_wp2_with fail
        go_quiet_grown (first | (go_at_call 23; refine grown_call (CL.out _ (Gr.of_grow _ _))))
        have G2 := Lib.hid (HGW.out.trans ((Gr.of_grow (w := wr) nq osq).below.mono HGW.out.size))
        clear d0 d1
        generalize Go.Sort.grow (wr.drewN nq) osq = w6 at G2 ⊢
        go_wp2
        go_ret
        exact ⟨rfl, G2.out⟩
      · have NX := Lib.hid (NXT.out rfl)
        clear NXT
        by_cases hik : i = k
        · subst hik
          have ee : ((i : Int) != (i : Int)) = false := by simp
          go_wp2_with fail
          go_quiet_grown (first | (go_at_call 23; refine grown_call (CL.out _ (Gr.of_grow _ _))))
          have G2 := Lib.hid (HLF.out.skip (Gr.of_grow (w := wr) nq osq).below)
          clear d0 d1
          generalize Go.Sort.grow (wr.drewN nq) osq = w6 at G2 ⊢
          go_wp2
          go_roundg (n - (i + 1))
          case measure => omega
          case rel => exact ⟨i + 1, by go_num, hi, Nat.le_refl _, ⟨NX.out, G2.out⟩⟩
        · have ee : ((i : Int) != (k : Int)) = true := by rw [bne_iff_ne]; omega
          go_wp2_with fail
          go_quiet_grown (first | (go_at_call 23; refine grown_call (CL.out _ (Gr.of_grow _ _))))
          have G2 := Lib.hid (Gr.of_grow (w := wr) nq osq).below
          have e0 := d0 nq osq
          have e1 := d1 nq osq
          clear d0 d1
          generalize Go.Sort.grow (wr.drewN nq) osq = w6 at G2 e0 e1 ⊢
          have hsz6 : w.heap.size ≤ w6.heap.size := Nat.le_trans HGW.out.size G2.out.size
          have B6 := Lib.hid (HGW.out.trans (G2.out.mono HGW.out.size))
          have OV := Lib.hid (own_none HLF.out.2.1 (below_none G2.out))
          have OU := Lib.hid (own_none HLF.out.2.2.1 (below_none G2.out))
          have DJ : Hid (u8.ownBlock = none ∨ u8.ownBlock ≠ u7.ownBlock) := by
            rcases HLF.out.2.2.2 with h | h
            · cases hu : u8.ownBlock with
              | none => exact Or.inl rfl
              | some x => exact Or.inr (by rw [h]; exact fun h => by cases h)
            · exact Or.inr (Ne.symm h)
          have DJ2 := Lib.hid HLF.out.2.2.2
          have OWB := Lib.hid (fun x (h : u7.ownBlock = some x) => (own_ge OV.out h).2)
          have ST2 := Lib.hid (ST.out hik)
          have CS := Lib.hid (cntK_step hik)
          have hm1 : cntK k i ≤ 1000 := cntK_le (by omega)
          clear HLF ST
          generalize cntK k i = m at *
          go_wp2_with fail
          go_region_held3 (fun w' => w'.cell? ⟨b, off + i, none⟩ = some (.slice ra zl rc) ∧ w'.cell? ⟨b', off' + i, none⟩ = some (.slice ra' yl rc')) (first | (with_reducible exact ⟨by assumption, by assumption⟩) | go_keep)
            (first
              | ((refine step_append_lies _ (by rfl) (.tmp 59) (.tmp 64) 31 (by rfl) w.heap.size 22 i22 (.slice none 0 0) 1 24 Tryd.underlying31 I22.out.1 I22.out.2.1 I22.out.2.2.1 I22.out.2.2.2 rfl Nat.zero_lt_one u7 m _ (by rfl) (own_none OV.out (by repeat (first | with_reducible exact gn_refl _ | with_reducible refine gn_drew ?_ | with_reducible refine gn_alloc ?_ _))) _ 1 1 [.slice ra zl rc] (by rfl) rfl (World.news_of_block (cs := #[.slice ra zl rc]) (t := 22) (fr := (0, 0)) (by repeat (first | with_reducible exact alloc_top _ _ _ (by first | rfl | omega | ((repeat first | rw [alloc_size] | rw [drew_heap]) <;> omega)) | (rw [drew_heap]) | with_reducible refine (alloc_old _ _ _ (by first | rfl | omega | ((repeat first | rw [alloc_size] | rw [drew_heap]) <;> omega))).trans ?_))) (by intro x hx; simp only [List.mem_cons, List.not_mem_nil, or_false] at hx; subst hx; rfl) Nat.zero_lt_one (by unfold maxLen; omega) (by omega) (by first | omega | ((repeat first | rw [alloc_size] | rw [drew_heap]) <;> omega)) _ rfl ?_); intro g1 cap1 w1 hown hgrow hat hlt; have HO1 := Lib.hid hown; have HG1 := Lib.hid hgrow; have HAT1 := Lib.hid hat; have HLT1 := Lib.hid hlt; have f0 := cell_grow hgrow (a := ⟨b, off + i, none⟩) (x := .slice ra zl rc) (cell_grow (by repeat (first | with_reducible exact gn_refl _ | with_reducible refine gn_drew ?_ | with_reducible refine gn_alloc ?_ _)) e0 (fun h => by cases h)) NE.out.1.1; have f1 := cell_grow hgrow (a := ⟨b', off' + i, none⟩) (x := .slice ra' yl rc') (cell_grow (by repeat (first | with_reducible exact gn_refl _ | with_reducible refine gn_drew ?_ | with_reducible refine gn_alloc ?_ _)) e1 (fun h => by cases h)) NE.out.1.2; have OU1 := Lib.hid ((own_none OU.out (by repeat (first | with_reducible exact gn_refl _ | with_reducible refine gn_drew ?_ | with_reducible refine gn_alloc ?_ _))).kept hgrow DJ.out); have SZ1 := hgrow.size; (try simp only [alloc_size, drew_heap] at SZ1); clear hown hgrow hat hlt)
              | ((refine step_append_lies _ (by rfl) (.tmp 66) (.tmp 71) 31 (by rfl) w.heap.size 22 i22 (.slice none 0 0) 1 24 Tryd.underlying31 I22.out.1 I22.out.2.1 I22.out.2.2.1 I22.out.2.2.2 rfl Nat.zero_lt_one u8 m _ (by rfl) (own_none OU1.out (by repeat (first | with_reducible exact gn_refl _ | with_reducible refine gn_drew ?_ | with_reducible refine gn_alloc ?_ _))) _ 1 1 [.slice ra' yl rc'] (by rfl) rfl (World.news_of_block (cs := #[.slice ra' yl rc']) (t := 22) (fr := (0, 0)) (by repeat (first | with_reducible exact alloc_top _ _ _ (by first | rfl | omega | ((repeat first | rw [alloc_size] | rw [drew_heap]) <;> omega)) | (rw [drew_heap]) | with_reducible refine (alloc_old _ _ _ (by first | rfl | omega | ((repeat first | rw [alloc_size] | rw [drew_heap]) <;> omega))).trans ?_ | with_reducible refine (HG1.out.block _ (by first | rfl | omega | ((repeat first | rw [alloc_size] | rw [drew_heap]) <;> omega)) (own_far OWB.out (by first | omega | ((repeat first | rw [alloc_size] | rw [drew_heap]) <;> omega)))).trans ?_))) (by intro x hx; simp only [List.mem_cons, List.not_mem_nil, or_false] at hx; subst hx; rfl) Nat.zero_lt_one (by unfold maxLen; omega) (by omega) (by first | omega | ((repeat first | rw [alloc_size] | rw [drew_heap]) <;> omega)) _ rfl ?_); intro g2 cap2 w2 hown hgrow hat hlt; have HO2 := Lib.hid hown; have HG2 := Lib.hid hgrow; have HAT2 := Lib.hid hat; have HLT2 := Lib.hid hlt; have f2 := cell_grow hgrow (a := ⟨b, off + i, none⟩) (x := .slice ra zl rc) (cell_grow (by repeat (first | with_reducible exact gn_refl _ | with_reducible refine gn_drew ?_ | with_reducible refine gn_alloc ?_ _)) f0 (fun h => by cases h)) NE.out.2.1; have f3 := cell_grow hgrow (a := ⟨b', off' + i, none⟩) (x := .slice ra' yl rc') (cell_grow (by repeat (first | with_reducible exact gn_refl _ | with_reducible refine gn_drew ?_ | with_reducible refine gn_alloc ?_ _)) f1 (fun h => by cases h)) NE.out.2.2; clear hown hgrow hat hlt)
              | fail "no arm")
          all_goals (
            have TA := Lib.hid (two_apps (w0 := w) (W0 := w6) rfl B6.out OV.out OU.out DJ2.out (by repeat (first | with_reducible exact gn_refl _ | with_reducible refine gn_drew ?_ | with_reducible refine gn_alloc ?_ _)) rfl HO1.out HG1.out HAT1.out HLT1.out (by repeat (first | with_reducible exact gn_refl _ | with_reducible refine gn_drew ?_ | with_reducible refine gn_alloc ?_ _)) rfl HO2.out HG2.out HAT2.out)
            have NEXT : Hid (LoopF k rA rS w (i + 1) (.slice (some ⟨g1, 0, none⟩) (m + 1) cap1) (.slice (some ⟨g2, 0, none⟩) (m + 1) cap2) w2) := by
              show LoopF _ _ _ _ _ _ _ _
              unfold LoopF
              rw [CS.out, ST2.out.1, ST2.out.2]
              exact ⟨TA.out.1, TA.out.2.1, HO2.out, Or.inr fun h => TA.out.2.2 (Option.some.inj h)⟩
            clear TA HO1 HG1 HAT1 HLT1 HO2 HG2 HAT2 HLT2 f0 f1 f2 f3 OU1 OV OU DJ DJ2 SZ1 OWB e0 e1
            go_wp2
            go_roundg (n - (i + 1))
            case measure => omega
            case rel => exact ⟨i + 1, by go_num, hi, Nat.le_refl _, ⟨NX.out, NEXT.out⟩⟩)
    · have hiz : ¬ (i : Int) < (n : Int) := by omega
      obtain rfl : n = i := by omega
      have KA : ∀ r ∈ rA, isB r.2.1 = true := by
        intro r hr
        obtain ⟨k, hk⟩ := List.mem_iff_getElem?.1 hr
        have hkl : k < n := by
          have := HLA.out
          rcases Nat.lt_or_ge k rA.length with h | h
          · omega
          · rw [List.getElem?_eq_none h] at hk; cases hk
        have := HOK.out.1 k r (rS[k]'(by have := HLS.out; omega)) hkl hk (List.getElem?_eq_getElem _)
        unfold clearB at this
        simp only [Bool.and_eq_true] at this
        exact this.1
      have G0 := HOK.out.2.1
      have hsz0 : w.heap.size ≤ wr.heap.size := G0.size
      have ORD := Lib.hid (implOrder p4 p6 a a' rA rS c c' n HLA.out HLS.out hn1 _ (EE.out.below G0) (HHA.out.below G0) (HHS.out.below G0) KA)
      obtain ⟨m, hm⟩ : ∃ m, m = n - 1 := ⟨_, rfl⟩
      obtain ⟨b7, c7, b8, c8, e7, e8, R7, R8⟩ := HOK.out.2.done hk hm HLA.out HLS.out HHA.out HHS.out
      subst e7 e8
      have lA : (rA.eraseIdx k).length = m := by rw [List.length_eraseIdx, HLA.out, if_pos hk, hm]
      have lS : (rS.eraseIdx k).length = m := by rw [List.length_eraseIdx, HLS.out, if_pos hk, hm]
      have ORE := Lib.hid (fun W (G : Below wr.heap.size wr W) => implOrder p4 p6 b7 b8 (rA.eraseIdx k) (rS.eraseIdx k) c7 c8 m lA lS (by omega) W (EE.out.below (G0.trans (G.mono hsz0))) (R7.below G) (R8.below G) (fun r hr => KA r (List.mem_of_mem_eraseIdx hr)))
      have OR1 := Lib.hid (fun wc W (G : Below w.heap.size w wc) hW => one_call p4 p6 w wc W EE.out G hW)
      have HG0 := Lib.hid G0
      have mm : ((m : Int) == (m : Int)) = true := by simp
      have HM := Lib.hid hm
      clear KA G0 HOK hkx R7 R8 lA lS hm
      go_wp2_with (go_at_call 22; refine ORD.out.mono ?_; intro e w2 hq; obtain ⟨av, cv, xs, I, rfl, q1, q2, q6, q3, q4, q5⟩ := hq.form; have HX : Hid (Ordd (cfP (pairsB rA rS)) n xs) := (by rw [← cfI_P q1]; exact q2); have HI := Lib.hid q3; have HB := Lib.hid q5; have HXL := Lib.hid q6; clear q1 q2 q3 q4 q5 q6 hq)
      have HW0 : Hid (LoopW k xs w2 0 (.slice none 0 0) w2) := LoopW.start k xs w2
      clear ORD
      go_loopg [10, 78] n (fun kx s10 s78 wr => ∃ (j : Nat), s78 = .int .i64 j ∧ j ≤ n ∧ n - j ≤ kx ∧ Hid (LoopW k xs w2 j s10 wr))
      case atStart => exact ⟨0, by go_num, Nat.zero_le _, by omega, HW0⟩
      case round =>
        clear HW0
        obtain ⟨j, rfl, hjn, hkx, HR⟩ := hrel
        by_cases hj : j < n
        · have hjz : (j : Int) < (n : Int) := by omega
          have hjz0 : (0 : Int) ≤ (j : Int) := by omega
          obtain ⟨x, hx⟩ : ∃ x, xs[j]? = some x := ⟨xs[j]'(by have := HXL.out; omega), List.getElem?_eq_getElem _⟩
          obtain ⟨bx, ox, rfl, cx⟩ := HI.out.at hx
          have lb : bx < w2.heap.size := World.block_lt_of_cell? _ _ cx
          have c0 : wr.cell? ⟨bx, ox + j, none⟩ = some (.int .i64 (x : Int)) := (HR.out.1.cell (p := ⟨bx, _, none⟩) lb).trans cx
          have hxn : x < n := by
            have := HX.out.1.mem_iff.1 (List.mem_of_getElem? hx)
            simpa using this
          obtain ⟨q, hq⟩ : ∃ q, q = ((xs.take j).filterMap (ren k)).length := ⟨_, rfl⟩
          have hqn : q ≤ n := by rw [hq]; exact ren_len HXL.out
          have OWN : Hid (wr.ownsRow w2.heap.size 3 1 u10 q (intsV ((xs.take j).filterMap (ren k)))) := by show World.ownsRow _ _ _ _ _ _ _; rw [hq]; exact HR.out.2
          have HQ := Lib.hid hq
          have HXJ := Lib.hid hx
          have hwsz : w2.heap.size ≤ wr.heap.size := HR.out.1.size
          clear cx hx hq
          rcases Nat.lt_trichotomy x k with hxk | rfl | hxk
          · have z1 : (x : Int) < (k : Int) := by omega
            have z2 : ¬ (k : Int) < (x : Int) := by omega
            go_wp2_with (at_builtin; refine wpList_append_lies _ rfl _ _ 34 rfl w2.heap.size 3 i3 (.int .i64 0) 1 8 Tryd.underlying34 I3.out.1 I3.out.2.1 I3.out.2.2.1 I3.out.2.2.2 rfl Nat.zero_lt_one u10 q _ rfl (OWN.out.alloc _) ⟨wr.heap.size, 0, none⟩ 1 1 [.int .i64 (x : Int)] rfl rfl ?_ ?_ Nat.zero_lt_one ?_ ?_ ?_ _ rfl ?_; (first | exact World.news_of_block (heap_alloc_new wr _) | skip); (first | (intro u hu; simp only [List.mem_cons, List.not_mem_nil, or_false] at hu; rcases hu with rfl; rfl) | skip); (all_goals try (first | (unfold maxLen; omega) | omega | (simp; omega))); (intro g2 cap2 w5 hown hgrow hat hlt); have HO5 := Lib.hid hown; have HG5 := Lib.hid hgrow; clear hown hgrow hat hlt)
            have NXT : Hid (LoopW k xs w2 (j + 1) (.slice (some ⟨g2, 0, none⟩) (q + 1) cap2) w5) := LoopW.step HXJ.out (ren_lt hxk) (below_grown (HR.out.1.alloc HR.out.1.size _) HG5.out (Nat.le_refl _) (fun k hk => (own_ge OWN.out hk).1)) (by rw [← HQ.out]; exact HO5.out)
            go_roundg (n - (j + 1))
            case measure => omega
            case rel => exact ⟨j + 1, by go_num, hj, Nat.le_refl _, NXT⟩
          · have z1 : ¬ (x : Int) < (x : Int) := by omega
            have NXT : Hid (LoopW x xs w2 (j + 1) u10 wr) := HR.out.skip HXJ.out ren_eq
            go_wp2
            go_roundg (n - (j + 1))
            case measure => omega
            case rel => exact ⟨j + 1, by go_num, hj, Nat.le_refl _, NXT⟩
          · have z1 : ¬ (x : Int) < (k : Int) := by omega
            have z2 : (k : Int) < (x : Int) := by omega
            have z3 : Hid ((x : Int) - 1 = ((x - 1 : Nat) : Int)) := by show _ = _; omega
            go_wp2_with (at_builtin; refine wpList_append_lies _ rfl _ _ 34 rfl w2.heap.size 3 i3 (.int .i64 0) 1 8 Tryd.underlying34 I3.out.1 I3.out.2.1 I3.out.2.2.1 I3.out.2.2.2 rfl Nat.zero_lt_one u10 q _ rfl (OWN.out.alloc _) ⟨wr.heap.size, 0, none⟩ 1 1 [.int .i64 ((x : Int) - 1)] rfl rfl ?_ ?_ Nat.zero_lt_one ?_ ?_ ?_ _ rfl ?_; (first | exact World.news_of_block (heap_alloc_new wr _) | skip); (first | (intro u hu; simp only [List.mem_cons, List.not_mem_nil, or_false] at hu; rcases hu with rfl; rfl) | skip); (all_goals try (first | (unfold maxLen; omega) | omega | (simp; omega))); (intro g2 cap2 w5 hown hgrow hat hlt); have HO5 := Lib.hid hown; have HG5 := Lib.hid hgrow; clear hown hgrow hat hlt)
            have NXT : Hid (LoopW k xs w2 (j + 1) (.slice (some ⟨g2, 0, none⟩) (q + 1) cap2) w5) := LoopW.step HXJ.out (ren_gt hxk) (below_grown (HR.out.1.alloc HR.out.1.size _) HG5.out (Nat.le_refl _) (fun k hk => (own_ge OWN.out hk).1)) (by rw [← HQ.out, ← z3.out]; exact HO5.out)
            go_roundg (n - (j + 1))
            case measure => omega
            case rel => exact ⟨j + 1, by go_num, hj, Nat.le_refl _, NXT⟩
        · have hjz : ¬ (j : Int) < (n : Int) := by omega
          obtain rfl : n = j := by omega
          obtain ⟨b10, c10, e10, HWI, HWL⟩ := HR.out.done HX.out hk HM.out
          subst e10
          have HGE := Lib.hid (HB.out.trans (HR.out.1.mono HB.out.size))
          have HWH := Lib.hid HWI
          have HWN : Hid ((xs.filterMap (ren k)).length ≤ 1000000) := by show _ ≤ _; rw [HWL, HM.out]; omega
          have HKN := Lib.hid hk
          clear HI HXL HWI HWL HR
          go_wp2_with (first
            | (go_at_call 22; ((with_reducible refine (ORE.out _ HGE.out).mono ?_); intro e w3 hq; obtain ⟨av3, cv3, rfl, p1, p2⟩ := few_end rfl HX.out HKN.out HM.out hq; have HI3 := Lib.hid p1; have HB3 := Lib.hid p2; clear p1 p2 hq; have G3 : Hid (Below w.heap.size w w3) := HG0.out.trans ((HGE.out.trans (HB3.out.mono HGE.out.size)).mono HG0.out.size)))
            | (go_at_call 24; ((with_reducible refine (same_self _ _ _ _ HI3.out (HWH.out.below HB3.out) HWN.out).mono ?_); rintro e w4 ⟨rfl, p⟩; have HB4 := Lib.hid p; clear p; have G4 : Hid (Below w.heap.size w w4) := G3.out.trans (HB4.out.mono G3.out.size)))
            | (go_at_call 22; ((with_reducible refine (OR1.out w4 _ G4.out rfl).mono ?_); rintro e w5 ⟨av5, cv5, rfl, p1, p2⟩; have HI5 := Lib.hid p1; have HB5 := Lib.hid p2; clear p1 p2))
            | (go_at_call 24; ((with_reducible refine (one_same HI5.out).mono ?_); rintro e w6 ⟨rfl, p⟩; have HB6 := Lib.hid p; clear p)))
          go_ret
          exact ⟨rfl, (HB5.out.alloc HB5.out.size _).trans (HB6.out.mono (Nat.le_trans HB5.out.size (by rw [alloc_size]; omega)))⟩

set_option maxHeartbeats 2000000 in
set_option maxRecDepth 100000 in
theorem few_unfit1 (a a' : Option Addr) (rA rS : List (Option Addr × List Int × Nat)) (c c' : Nat) (k : Int) (w : World) (HA : HoldsBB w a rA) (hA : rA.length ≤ maxLen) (F1 : fitsB rA = false) :
    Calls Tryd.prog 8 #[.slice a rA.length c, .slice a' rS.length c', .int .i64 k] w fun e w' => e = .returned (.bool true) ∧ Below w.heap.size w w' := by
  have Z1 := zzFits_any a rA c w HA hA
  rw [F1] at Z1
  have ZF1 := Lib.hid Z1
  clear Z1 HA hA F1
  generalize rA.length = n at *
  generalize rS.length = m at *
  go_enter Tryd.func8, Tryd.ntmps8
  go_wp2_with (go_at_call 21; ((with_reducible refine ZF1.out.mono ?_); rintro e w1 ⟨rfl, rfl⟩))
  go_ret
  exact ⟨rfl, Below.refl _ _⟩
set_option maxHeartbeats 2000000 in
set_option maxRecDepth 100000 in
theorem few_unfit2 (a a' : Option Addr) (rA rS : List (Option Addr × List Int × Nat)) (c c' : Nat) (k : Int) (w : World) (HA : HoldsBB w a rA) (HS : HoldsBB w a' rS) (hA : rA.length ≤ maxLen) (hS : rS.length ≤ maxLen) (F1 : fitsB rA = true) (F2 : fitsB rS = false) :
    Calls Tryd.prog 8 #[.slice a rA.length c, .slice a' rS.length c', .int .i64 k] w fun e w' => e = .returned (.bool true) ∧ Below w.heap.size w w' := by
  have Z1 := zzFits_any a rA c w HA hA
  have Z2 := zzFits_any a' rS c' w HS hS
  rw [F1] at Z1
  rw [F2] at Z2
  have ZF1 := Lib.hid Z1
  have ZF2 := Lib.hid Z2
  clear Z1 Z2 HA HS hA hS F1 F2
  generalize rA.length = n at *
  generalize rS.length = m at *
  go_enter Tryd.func8, Tryd.ntmps8
  go_wp2_with (first | (go_at_call 21; ((with_reducible refine ZF1.out.mono ?_); rintro e w1 ⟨rfl, rfl⟩)) | (go_at_call 21; ((with_reducible refine ZF2.out.mono ?_); rintro e w1 ⟨rfl, rfl⟩)))
  go_ret
  exact ⟨rfl, Below.refl _ _⟩
set_option maxHeartbeats 2000000 in
set_option maxRecDepth 100000 in
theorem few_len (a a' : Option Addr) (rA rS : List (Option Addr × List Int × Nat)) (c c' : Nat) (k : Int) (w : World) (HA : HoldsBB w a rA) (HS : HoldsBB w a' rS) (hA : rA.length ≤ maxLen) (hS : rS.length ≤ maxLen) (F1 : fitsB rA = true) (F2 : fitsB rS = true) (hl : rA.length ≠ rS.length ∨ 1000 < rA.length) :
    Calls Tryd.prog 8 #[.slice a rA.length c, .slice a' rS.length c', .int .i64 k] w fun e w' => e = .returned (.bool true) ∧ Below w.heap.size w w' := by
  have Z1 := zzFits_any a rA c w HA hA
  have Z2 := zzFits_any a' rS c' w HS hS
  rw [F1] at Z1
  rw [F2] at Z2
  have ZF1 := Lib.hid Z1
  have ZF2 := Lib.hid Z2
  clear Z1 Z2 HA HS hA hS F1 F2
  generalize rA.length = n at *
  generalize rS.length = m at *
  by_cases e : n = m
  · subst e
    have nn : ((n : Int) != (n : Int)) = false := by simp
    have hz : (1000 : Int) < (n : Int) := by omega
    clear hl
    go_enter Tryd.func8, Tryd.ntmps8
    go_wp2_with (first | (go_at_call 21; ((with_reducible refine ZF1.out.mono ?_); rintro e w1 ⟨rfl, rfl⟩)) | (go_at_call 21; ((with_reducible refine ZF2.out.mono ?_); rintro e w1 ⟨rfl, rfl⟩)))
    go_ret
    exact ⟨rfl, Below.refl _ _⟩
  · have ne : ((n : Int) != (m : Int)) = true := by rw [bne_iff_ne]; omega
    clear hl e
    go_enter Tryd.func8, Tryd.ntmps8
    go_wp2_with (first | (go_at_call 21; ((with_reducible refine ZF1.out.mono ?_); rintro e w1 ⟨rfl, rfl⟩)) | (go_at_call 21; ((with_reducible refine ZF2.out.mono ?_); rintro e w1 ⟨rfl, rfl⟩)))
    go_ret
    exact ⟨rfl, Below.refl _ _⟩
set_option maxHeartbeats 2000000 in
set_option maxRecDepth 100000 in
theorem few_k (a a' : Option Addr) (rA rS : List (Option Addr × List Int × Nat)) (c c' : Nat) (k : Int) (w : World) (HA : HoldsBB w a rA) (HS : HoldsBB w a' rS) (hA : rA.length ≤ maxLen) (hS : rS.length ≤ maxLen) (F1 : fitsB rA = true) (F2 : fitsB rS = true) (hl : rA.length = rS.length) (hn : rA.length ≤ 1000) (hk : k < 0 ∨ (rA.length : Int) ≤ k) :
    Calls Tryd.prog 8 #[.slice a rA.length c, .slice a' rS.length c', .int .i64 k] w fun e w' => e = .returned (.bool true) ∧ Below w.heap.size w w' := by
  have Z1 := zzFits_any a rA c w HA hA
  have Z2 := zzFits_any a' rS c' w HS hS
  rw [F1] at Z1
  rw [F2] at Z2
  have ZF1 := Lib.hid Z1
  have ZF2 := Lib.hid Z2
  clear Z1 Z2 HA HS hA hS F1 F2
  generalize rA.length = n at *
  generalize rS.length = m at *
  subst hl
  have nn : ((n : Int) != (n : Int)) = false := by simp
  have n1000 : ¬ (1000 : Int) < (n : Int) := by omega
  by_cases h0 : k < 0
  · have h1 : decide (k < 0) = true := by simpa using h0
    clear hk
    go_enter Tryd.func8, Tryd.ntmps8
    go_wp2_with (first | (go_at_call 21; ((with_reducible refine ZF1.out.mono ?_); rintro e w1 ⟨rfl, rfl⟩)) | (go_at_call 21; ((with_reducible refine ZF2.out.mono ?_); rintro e w1 ⟨rfl, rfl⟩)))
    go_ret
    exact ⟨rfl, Below.refl _ _⟩
  · have h2 : (n : Int) ≤ k := by omega
    clear hk
    go_enter Tryd.func8, Tryd.ntmps8
    go_wp2_with (first | (go_at_call 21; ((with_reducible refine ZF1.out.mono ?_); rintro e w1 ⟨rfl, rfl⟩)) | (go_at_call 21; ((with_reducible refine ZF2.out.mono ?_); rintro e w1 ⟨rfl, rfl⟩)))
    go_ret
    exact ⟨rfl, Below.refl _ _⟩

/-- The law, whatever the two arguments and the index. -/
theorem few_walk (p4 p6 : Addr) (a : Option Addr) (rA : List (Option Addr × List Int × Nat)) (c : Nat) (a' : Option Addr) (rS : List (Option Addr × List Int × Nat)) (c' : Nat) (k : Int) (w : World) (E : EnvO p4 p6 w) (k0 : rA.length ≤ c) (k1 : c ≤ maxLen) (HA : HoldsBB w a rA) (k2 : rS.length ≤ c') (k3 : c' ≤ maxLen) (HS : HoldsBB w a' rS) (_ : (Lit.int .i64 k).wf = true) :
    Calls Tryd.prog 8 #[.slice a rA.length c, .slice a' rS.length c', .int .i64 k] w fun e w' => e = .returned (.bool true) ∧ Below w.heap.size w w' := by
  have hA : rA.length ≤ maxLen := Nat.le_trans k0 k1
  have hS : rS.length ≤ maxLen := Nat.le_trans k2 k3
  cases F1 : fitsB rA with
  | false => exact few_unfit1 a a' rA rS c c' k w HA hA F1
  | true =>
    cases F2 : fitsB rS with
    | false => exact few_unfit2 a a' rA rS c c' k w HA HS hA hS F1 F2
    | true =>
      by_cases hl : rA.length ≠ rS.length ∨ 1000 < rA.length
      · exact few_len a a' rA rS c c' k w HA HS hA hS F1 F2 hl
      · by_cases hk : k < 0 ∨ (rA.length : Int) ≤ k
        · exact few_k a a' rA rS c c' k w HA HS hA hS F1 F2 (by omega) (by omega) hk
        · obtain ⟨n, hn⟩ : ∃ n, n = rA.length := ⟨_, rfl⟩
          obtain ⟨x, rfl⟩ : ∃ x : Nat, k = (x : Int) := ⟨k.toNat, by omega⟩
          have e2 : rS.length = n := by omega
          rw [e2, ← hn]
          exact few_main p4 p6 a a' rA rS c c' n x hn.symm e2 (by omega) (by omega) w E HA HS F1 F2
end Go.Proofs.YtbejikpopealdaaDoor
