/-
  The rows that sortByRFC6724withSrcs reads and writes: the addresses (two cells each), the sources (three), the infos (eleven).
-/
import Derived.Test.YtbejikpopealdaaDoorQSortF
import Derived.Test.YtbejikpopealdaaDoorQAttrB
import Derived.Test.YtbejikpopealdaaDoorQStrcB
import Derived.Deep.AppendLies
import Derived.Laws.OwnMore
namespace Go.Proofs.YtbejikpopealdaaDoor
open Go.RowKit Go.Sort

def znS (x : Nat) : Value := .string (numS x)
/-- The two cells of the x-th address; the three of its source. -/
def cells2 (I : List Dst) (x : Nat) : List Value := match I[x]? with
  | some r => [.slice r.1 r.2.2.1.length r.2.1, znS x]
  | none => [.slice none 0 0, .string ⟨#[]⟩]
def cells3 (p4 p6 : Addr) (I : List Dst) (x : Nat) : List Value := match I[x]? with
  | some r => [.int .u64 (hiOf r.2.2.2), .int .u64 (loOf r.2.2.2), .pointer (zp p4 p6 (famOf r.2.2.2))]
  | none => [.int .u64 0, .int .u64 0, .pointer none]
def rowL (I : List Dst) (xs : List Nat) : List Value := xs.flatMap (cells2 I)
def rowS (p4 p6 : Addr) (I : List Dst) (xs : List Nat) : List Value := xs.flatMap (cells3 p4 p6 I)

theorem cells2_len (I : List Dst) (x : Nat) : (cells2 I x).length = 2 := by unfold cells2; split <;> rfl
theorem cells3_len (p4 p6 : Addr) (I : List Dst) (x : Nat) : (cells3 p4 p6 I x).length = 3 := by unfold cells3; split <;> rfl

theorem flat_len {f : Nat → List Value} {m : Nat} (h : ∀ x, (f x).length = m) : ∀ xs : List Nat, (xs.flatMap f).length = xs.length * m
  | [] => by simp
  | x :: xs => by rw [List.flatMap_cons, List.length_append, h, flat_len h xs, List.length_cons, Nat.succ_mul, Nat.add_comm]
theorem flat_at {f : Nat → List Value} {m : Nat} (h : ∀ x, (f x).length = m) : ∀ (xs : List Nat) (i c : Nat) (y : Nat), xs[i]? = some y → c < m → (xs.flatMap f)[i * m + c]? = (f y)[c]?
  | [], i, c, y, hy, _ => by simp at hy
  | x :: xs, 0, c, y, hy, hc => by
    simp only [List.getElem?_cons_zero, Option.some.injEq] at hy
    subst hy
    rw [List.flatMap_cons, Nat.zero_mul, Nat.zero_add, List.getElem?_append_left (by rw [h]; exact hc)]
  | x :: xs, i + 1, c, y, hy, hc => by
    rw [List.flatMap_cons, List.getElem?_append_right (by rw [h, Nat.succ_mul]; omega), h, show (i + 1) * m + c - m = i * m + c by rw [Nat.succ_mul]; omega]
    exact flat_at h xs i c y (by simpa using hy) hc

/-- The array while it is filled: i elements stand, the others are zero. -/
def fillA (n i : Nat) : Array Nat := (Array.range n).map fun j => if j < i then j else n
theorem fillA_size (n i : Nat) : (fillA n i).size = n := by simp [fillA]
theorem fillA_get (n i j : Nat) (h : j < n) : (fillA n i)[j]! = if j < i then j else n := by
  rw [getElem!_pos _ j (by rw [fillA_size]; exact h)]
  simp [fillA]
theorem fillA_full (n : Nat) : fillA n n = Array.range n := by
  apply Array.ext
  · simp [fillA]
  · intro j h1 h2
    have : j < n := by simpa using h2
    simp [fillA, this]

theorem setMany_set (enc : Nat → List Value) (k : Nat) (hk : ∀ x, (enc x).length = k) (d : Array Nat) (i x : Nat) (hi : i < d.size) :
    setMany (flatK enc k d) (i * k) (enc x) = flatK enc k (d.setIfInBounds i x) := by
  refine ext_get! (by simp) fun t ht => ?_
  have ht' : t < d.size * k := by simpa using ht
  have k0 : 0 < k := by
    rcases Nat.eq_zero_or_pos k with h | h
    · subst h; simp at ht'
    · exact h
  rw [get_setMany _ _ _ t (by simpa using ht'), get_flatK _ _ _ t ht', get_flatK _ _ _ t (by simpa using ht'), hk]
  by_cases a : t / k = i
  · rw [if_pos ((blk_iff k i t k0).2 a), a, getElem!_set_same d i x hi]
    congr 1
    subst a
    rw [Nat.mod_eq_sub_div_mul]
  · rw [if_neg (fun h => a ((blk_iff k i t k0).1 h)), getElem!_set_other d i _ x a]
theorem fillA_step (n i : Nat) (_ : i < n) : (fillA n i).setIfInBounds i i = fillA n (i + 1) := by
  apply Array.ext
  · simp [fillA]
  · intro j h1 h2
    have hj : j < n := by simpa [fillA] using h2
    rw [Array.getElem_setIfInBounds]
    · by_cases e : i = j
      · subst e; simp [fillA]
      · rw [if_neg e]
        simp only [fillA, Array.getElem_map, Array.getElem_range]
        by_cases c : j < i
        · rw [if_pos c, if_pos (by omega)]
        · rw [if_neg c, if_neg (by omega)]
    · simpa [fillA] using hj

/-- While element i is laid: the other elements hold; the i-th's cells are there. -/
def Rest (enc : Nat → List Value) (k : Nat) (W : World) (blk : Nat) (d : Array Nat) (i : Nat) : Prop :=
  ∀ t, t < d.size * k → (t / k ≠ i → W.cell? ⟨blk, t, none⟩ = some (flatK enc k d)[t]!) ∧ (∃ v, W.cell? ⟨blk, t, none⟩ = some v) ∧ W.frozen? ⟨blk, t, none⟩ = false
theorem Rest.of {enc : Nat → List Value} {k : Nat} {W : World} {blk : Nat} {d : Array Nat} {i : Nat} (h : HoldsK enc k W blk 0 d) : Rest enc k W blk d i := fun t ht => by
  have := h t (by simpa using ht)
  rw [Nat.zero_add] at this
  exact ⟨fun _ => this.1, ⟨_, this.1⟩, this.2⟩
theorem Rest.gr {enc : Nat → List Value} {k : Nat} {W W' : World} {blk : Nat} {d : Array Nat} {i : Nat} (h : Rest enc k W blk d i) (g : Gr W W') (hb : blk < W.heap.size) : Rest enc k W' blk d i := fun t ht => by
  obtain ⟨h1, ⟨v, h2⟩, h3⟩ := h t ht
  exact ⟨fun e => g.cell (p := ⟨blk, t, none⟩) hb (h1 e), ⟨v, g.cell (p := ⟨blk, t, none⟩) hb h2⟩, g.frozen (p := ⟨blk, t, none⟩) hb h3⟩
/-- Behind the i-th element's stores: the array holds it. -/
theorem Rest.laid {enc : Nat → List Value} {k : Nat} (hk : ∀ x, (enc x).length = k) {W : World} {blk n i : Nat} (h : Rest enc k W blk (fillA n i) i) (hi : i < n) : HoldsK enc k (W.setCells blk (i * k) (enc i)) blk 0 (fillA n (i + 1)) := by
  intro t ht
  rw [size_flatK, fillA_size] at ht
  have ht' : t < (fillA n i).size * k := by rw [fillA_size]; exact ht
  obtain ⟨h1, ⟨v, h2⟩, h3⟩ := h t ht'
  rw [Nat.zero_add]
  refine ⟨?_, by rw [World.frozen?_setCells]; exact h3⟩
  have k0 : 0 < k := by
    rcases Nat.eq_zero_or_pos k with e | e
    · subst e; simp at ht
    · exact e
  rw [← fillA_step n i hi, get_flatK _ _ _ t (by simpa using ht')]
  have F : Holds id W blk 0 ((Array.range ((fillA n i).size * k)).map fun t => (W.cell? ⟨blk, t, none⟩).getD undef) := by
    intro s hs
    have hs' : s < (fillA n i).size * k := by simpa using hs
    obtain ⟨_, ⟨u, q2⟩, q3⟩ := h s hs'
    rw [Nat.zero_add]
    refine ⟨?_, q3⟩
    rw [getElem!_pos _ s hs, q2]
    simp [q2]
  have F2 := holds_setCells_c F (i * k) (enc i) (by
    rw [hk, Array.size_map, Array.size_range, fillA_size]
    have := Nat.mul_le_mul_right k (show i + 1 ≤ n from hi)
    rwa [Nat.succ_mul] at this)
  have g := (F2 t (by rw [size_setMany, Array.size_map, Array.size_range]; exact ht')).1
  rw [Nat.zero_add, Nat.zero_add] at g
  rw [g, get_setMany _ _ _ t (by rw [Array.size_map, Array.size_range]; exact ht'), hk]
  by_cases a : t / k = i
  · rw [if_pos ((blk_iff k i t k0).2 a), a, getElem!_set_same _ i i (by rw [fillA_size]; exact hi)]
    have : t - i * k = t % k := by subst a; rw [Nat.mod_eq_sub_div_mul]
    rw [this]
  · rw [if_neg (fun h => a ((blk_iff k i t k0).1 h)), getElem!_set_other _ i _ i a, getElem!_pos _ t (by rw [Array.size_map, Array.size_range]; exact ht')]
    have e1 := h1 a
    rw [get_flatK _ _ _ t ht'] at e1
    simp [e1]
end Go.Proofs.YtbejikpopealdaaDoor
