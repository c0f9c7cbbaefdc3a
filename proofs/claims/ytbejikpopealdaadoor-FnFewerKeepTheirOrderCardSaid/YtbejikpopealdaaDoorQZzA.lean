/-
  What the three loops of ZZOrder keep: the copied addresses with their numerals, the sources, the indices; no program is run here.
-/
import Derived.Test.YtbejikpopealdaaDoorQSrcB
import Derived.Test.YtbejikpopealdaaDoorQCplB
namespace Go.Proofs.YtbejikpopealdaaDoor
open Go.RowKit

theorem tab_below {w w' : World} (h : Lib.TabIs Tryd.prog w "internal/strconv.uint64pow10" .u64 Lib.pow10Tab) (g : Below w.heap.size w w') : Lib.TabIs Tryd.prog w' "internal/strconv.uint64pow10" .u64 Lib.pow10Tab := by
  unfold Lib.TabIs World.var? at h ⊢
  rw [tab5] at h ⊢
  simp only [Option.bind_some] at h ⊢
  have hl : 5 < w.heap.size := by
    rcases Nat.lt_or_ge 5 w.heap.size with h' | h'
    · exact h'
    · rw [Array.getElem?_eq_none h'] at h; cases h
  rw [g.block 5 hl]
  exact h
theorem EnvO.below {p4 p6 : Addr} {w w' : World} (h : EnvO p4 p6 w) (g : Below w.heap.size w w') : EnvO p4 p6 w' := ⟨h.net.below g, tab_below h.tab g⟩
theorem HoldsB.blk {w w' : World} {b o : Nat} {zs : List Int} (h : HoldsB w (some ⟨b, o, none⟩) zs) (e : w'.heap[b]? = w.heap[b]?) (hl : w.heap.size ≤ w'.heap.size) : HoldsB w' (some ⟨b, o, none⟩) zs := by
  obtain ⟨h1, h2⟩ := h
  refine ⟨h1, ?_⟩
  rcases h2 with h2 | ⟨b', o', e', hb, hc⟩
  · exact Or.inl h2
  · cases e'
    exact Or.inr ⟨b, o, rfl, by omega, fun i hi => by rw [← hc i hi]; exact World.cell?_of_block e⟩
theorem ownsRow_base {w : World} {b b' : Nat} {e : TypeId} {size : Nat} {v : Value} {n : Nat} {xs : List Value} (h : w.ownsRow b e size v n xs) (hb : b' ≤ b) : w.ownsRow b' e size v n xs := by
  refine ⟨h.1, ?_⟩
  rcases h.2 with h2 | ⟨g, cap, cur, h3, h4, h5⟩
  · exact Or.inl h2
  · exact Or.inr ⟨g, cap, cur, h3, Nat.le_trans hb h4, h5⟩
theorem own_ge {w : World} {b : Nat} {e : TypeId} {size : Nat} {v : Value} {n : Nat} {xs : List Value} (h : w.ownsRow b e size v n xs) {k : Nat} (hk : v.ownBlock = some k) : b ≤ k ∧ k < w.heap.size := by
  rcases h.2 with ⟨rfl, _⟩ | ⟨g, cap, cur, rfl, h4, h5, _⟩
  · cases hk
  · cases hk
    exact ⟨h4, by
      rcases Nat.lt_or_ge g w.heap.size with h' | h'
      · exact h'
      · rw [Array.getElem?_eq_none h'] at h5; cases h5⟩
theorem below_grown {B : Nat} {w w' w'' : World} {row : Option Nat} (h : Below B w w') (g : w'.grownBy w'' row) (hb : B ≤ w.heap.size) (hr : ∀ k, row = some k → B ≤ k) : Below B w w'' :=
  h.grown g (Nat.le_trans hb h.size) hr

/-! ### the addresses -/
def LoopA (PA : List (List Int × List Int)) (w : World) (i : Nat) (v : Value) (I : List Dst) (W : World) : Prop :=
  Below w.heap.size w W ∧ W.ownsRow w.heap.size 74 2 v i (rowL I (List.range i)) ∧ I.map (fun r => (r.2.2.1, r.2.2.2)) = PA.take i ∧ ∀ r ∈ I, DstOk W r ∧ ∃ b, r.1 = some ⟨b, 0, none⟩ ∧ b < W.heap.size ∧ v.ownBlock ≠ some b
theorem LoopA.start (PA : List (List Int × List Int)) (w : World) : LoopA PA w 0 (.slice none 0 0) [] w :=
  ⟨Below.refl _ _, World.ownsRow_nil _ _ _ _, by simp, fun r hr => by cases hr⟩
theorem LoopA.len {PA : List (List Int × List Int)} {w W : World} {i : Nat} {v : Value} {I : List Dst} (h : LoopA PA w i v I W) (hi : i ≤ PA.length) : I.length = i := by
  have := congrArg List.length h.2.2.1
  simp at this
  omega
theorem flat_congr {f g : Nat → List Value} : ∀ {xs : List Nat}, (∀ x ∈ xs, f x = g x) → xs.flatMap f = xs.flatMap g
  | [], _ => rfl
  | x :: xs, h => by
    rw [List.flatMap_cons, List.flatMap_cons, h x (by simp), flat_congr (fun y hy => h y (by simp [hy]))]
theorem LoopA.at {PA : List (List Int × List Int)} {w W : World} {n i : Nat} {v : Value} {I : List Dst} (h : LoopA PA w n v I W) (hn : PA.length ≤ n) {z y : List Int} (hp : PA[i]? = some (z, y)) : ∃ r, I[i]? = some r ∧ r.2.2.2 = y := by
  have e := h.2.2.1
  rw [List.take_of_length_le hn] at e
  rw [← e, List.getElem?_map] at hp
  obtain ⟨r, h1, h2⟩ := Option.map_eq_some_iff.1 hp
  exact ⟨r, h1, congrArg Prod.snd h2⟩
theorem rowL_snoc (I : List Dst) (r : Dst) (i : Nat) (hl : I.length = i) : rowL (I ++ [r]) (List.range (i + 1)) = rowL I (List.range i) ++ [.slice r.1 r.2.2.1.length r.2.1, znS i] := by
  unfold rowL
  rw [List.range_succ, List.flatMap_append]
  congr 1
  · refine flat_congr fun x hx => ?_
    have : x < i := by simpa using hx
    unfold cells2
    rw [List.getElem?_append_left (by omega)]
  · subst hl
    simp [cells2]
theorem LoopA.step {PA : List (List Int × List Int)} {w W W1 W2 W4 : World} {i g1 cap1 g2 cap2 : Nat} {v : Value} {I : List Dst} {z y : List Int} (h : LoopA PA w i v I W) (hp : PA[i]? = some (z, y)) (hz : isB z = true) (bz : ∀ x ∈ z, Byt x) (by' : ∀ x ∈ y, Byt x)
    (o1 : W1.ownsRow W.heap.size 5 1 (.slice (some ⟨g1, 0, none⟩) z.length cap1) z.length (z.map (Value.int .u8))) (q1 : W.grownBy W1 none) (e1 : g1 = W.heap.size) (l1 : g1 < W1.heap.size) (q2 : Gr W1 W2)
    (o4 : W4.ownsRow w.heap.size 74 2 (.slice (some ⟨g2, 0, none⟩) (i + 1) cap2) (i + 1) (rowL I (List.range i) ++ [.slice (some ⟨g1, 0, none⟩) z.length cap1, .string (numS i)]))
    (q4 : (W2.alloc (.cells #[.slice (some ⟨g1, 0, none⟩) z.length cap1, .string (numS i)] 74)).grownBy W4 v.ownBlock) (e4 : v.ownBlock = some g2 ∨ g2 = W2.heap.size + 1) :
    LoopA PA w (i + 1) (.slice (some ⟨g2, 0, none⟩) (i + 1) cap2) (I ++ [(some ⟨g1, 0, none⟩, cap1, z, y)]) W4 := by
  have hi : i < PA.length := by
    rcases Nat.lt_or_ge i PA.length with h' | h'
    · exact h'
    · rw [List.getElem?_eq_none h'] at hp; cases hp
  have hlen := h.len (by omega)
  obtain ⟨a1, a2, a3, a4⟩ := h
  have s0 := a1.size
  have s1 := q1.size
  have s2 := q2.size
  have s3 : (W2.alloc (.cells #[.slice (some ⟨g1, 0, none⟩) z.length cap1, .string (numS i)] 74)).heap.size = W2.heap.size + 1 := by simp
  have s4 := q4.size
  have vlt : ∀ k, v.ownBlock = some k → w.heap.size ≤ k ∧ k < W.heap.size := fun k hk => own_ge a2 hk
  have B1 : Below w.heap.size w W1 := below_grown a1 q1 (Nat.le_refl _) (fun k hk => by cases hk)
  have B2 : Below w.heap.size w W2 := B1.trans (q2.below.mono (by omega))
  have B3 : Below w.heap.size w (W2.alloc (.cells #[.slice (some ⟨g1, 0, none⟩) z.length cap1, .string (numS i)] 74)) := B2.alloc (by omega) _
  have blk : ∀ b, b < W.heap.size → v.ownBlock ≠ some b → W4.heap[b]? = W.heap[b]? := fun b hb hn => by
    rw [q4.block b (by omega) (fun e => hn e.symm), heap_alloc_old _ _ (show b < W2.heap.size by omega), q2.below.block b (by omega), q1.block b hb (by simp)]
  refine ⟨below_grown B3 q4 (Nat.le_refl _) (fun k hk => (vlt k hk).1), ?_, ?_, ?_⟩
  · rw [rowL_snoc I _ i hlen]; exact o4
  · rw [List.map_append, a3, List.take_add_one, hp]; rfl
  · intro r hr
    rcases List.mem_append.1 hr with hr | hr
    · obtain ⟨⟨d1, d2, d3, d4⟩, b, hb1, hb2, hb3⟩ := a4 r hr
      refine ⟨⟨d1, d2, ?_, d4⟩, b, hb1, by omega, ?_⟩
      · rw [hb1] at d3 ⊢
        exact d3.blk (blk b hb2 hb3) (by omega)
      · show some g2 ≠ some b
        rcases e4 with e4 | e4
        · rw [← e4]; exact hb3
        · intro e; cases e; omega
    · obtain rfl := List.mem_singleton.1 hr
      have hne : v.ownBlock ≠ some g1 := fun e => by have := (vlt _ e).2; omega
      have H1 := holdsB_own bz o1 l1
      have H2 := H1.gr (q2.alloc (.cells #[.slice (some ⟨g1, 0, none⟩) z.length cap1, .string (numS i)] 74))
      refine ⟨⟨hz, own_cap o1, H2.blk (q4.block g1 (by omega) (fun e => hne e.symm)) q4.size, by'⟩, g1, rfl, by show g1 < _; omega, ?_⟩
      show some g2 ≠ some g1
      rcases e4 with e4 | e4
      · rw [← e4]; exact hne
      · intro e; cases e; omega

/-! ### the sources -/
def LoopB (p4 p6 : Addr) (I : List Dst) (w : World) (i : Nat) (v : Value) (W : World) : Prop :=
  Below w.heap.size w W ∧ W.ownsRow w.heap.size 55 3 v i (rowS p4 p6 I (List.range i))
theorem LoopB.start (p4 p6 : Addr) (I : List Dst) (w : World) : LoopB p4 p6 I w 0 (.slice none 0 0) w := ⟨Below.refl _ _, World.ownsRow_nil _ _ _ _⟩
theorem rowS_snoc (p4 p6 : Addr) (I : List Dst) (i : Nat) {r : Dst} (hr : I[i]? = some r) : rowS p4 p6 I (List.range (i + 1)) = rowS p4 p6 I (List.range i) ++ [.int .u64 (hiOf r.2.2.2), .int .u64 (loOf r.2.2.2), .pointer (zp p4 p6 (famOf r.2.2.2))] := by
  unfold rowS
  rw [List.range_succ, List.flatMap_append]
  congr 1
  simp [cells3, hr]

/-! ### the indices -/
def intsV (xs : List Nat) : List Value := xs.map fun (x : Nat) => Value.int .i64 (x : Int)
def LoopC (xs : List Nat) (w : World) (j : Nat) (v : Value) (W : World) : Prop :=
  Below w.heap.size w W ∧ W.ownsRow w.heap.size 3 1 v j (intsV (xs.take j))
theorem LoopC.start (xs : List Nat) (w : World) : LoopC xs w 0 (.slice none 0 0) w := ⟨Below.refl _ _, World.ownsRow_nil _ _ _ _⟩
theorem intsV_snoc {xs : List Nat} {j x : Nat} (h : xs[j]? = some x) : intsV (xs.take (j + 1)) = intsV (xs.take j) ++ [.int .i64 (x : Int)] := by
  rw [List.take_add_one, h]
  simp [intsV]

/-- The slice value holds these numbers. -/
def HoldsI (w : World) (v : Value) (xs : List Nat) : Prop :=
  ∃ a c, v = .slice a xs.length c ∧ xs.length ≤ c ∧ (xs = [] ∨ ∃ b off, a = some ⟨b, off, none⟩ ∧ b < w.heap.size ∧ ∀ (i : Nat) x, xs[i]? = some x → w.cell? ⟨b, off + i, none⟩ = some (.int .i64 (x : Int)))
theorem HoldsI.below {w w' : World} {v : Value} {xs : List Nat} (h : HoldsI w v xs) (g : Below w.heap.size w w') : HoldsI w' v xs := by
  obtain ⟨a, c, h1, h2, h3⟩ := h
  refine ⟨a, c, h1, h2, ?_⟩
  rcases h3 with h3 | ⟨b, off, e, hb, hc⟩
  · exact Or.inl h3
  · exact Or.inr ⟨b, off, e, Nat.lt_of_lt_of_le hb g.size, fun i x hx => (g.cell (p := ⟨b, _, none⟩) hb).trans (hc i x hx)⟩
theorem LoopC.holds {xs : List Nat} {w W : World} {n : Nat} {v : Value} (h : LoopC xs w n v W) (hn : xs.length = n) : HoldsI W v xs := by
  obtain ⟨_, h2⟩ := h
  rw [List.take_of_length_le (by omega)] at h2
  subst hn
  rcases h2.2 with ⟨rfl, h0⟩ | ⟨g, cap, cur, rfl, h4, h5, h6, _⟩
  · have : xs = [] := List.eq_nil_of_length_eq_zero h0
    subst this
    exact ⟨none, 0, rfl, Nat.le_refl _, Or.inl rfl⟩
  · refine ⟨_, cap, rfl, h6, Or.inr ⟨g, 0, rfl, (own_ge h2 rfl).2, fun i x hx => ?_⟩⟩
    have hi : i < xs.length := by
      rcases Nat.lt_or_ge i xs.length with h' | h'
      · exact h'
      · rw [List.getElem?_eq_none h'] at hx; cases hx
    rw [Nat.zero_add, h2.cellAt i (by omega)]
    simp [intsV, hx]
end Go.Proofs.YtbejikpopealdaaDoor
