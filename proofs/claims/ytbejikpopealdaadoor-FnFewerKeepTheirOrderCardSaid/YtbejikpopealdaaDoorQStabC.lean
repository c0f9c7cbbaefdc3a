/-
  Plain law of the stable sort: insertion, exchange of ranges, rotation, over arrays of indices and a total preorder; no program is run here.
-/
import Derived.Shelf.SlSortCmp.Insertion
import Derived.Sort.LotA
namespace Go.Proofs.YtbejikpopealdaaDoor
open Go.Sort

/-- A total preorder, as a comparison that answers with a number. -/
structure Pre (cf : Nat → Nat → Int) : Prop where
  anti : ∀ x y, cf x y < 0 ↔ 0 < cf y x
  trans : ∀ x y z, cf x y ≤ 0 → cf y z ≤ 0 → cf x z ≤ 0

/-- Strictly ahead: by the comparison, or equal and earlier. -/
def Sb (cf : Nat → Nat → Int) (x y : Nat) : Prop := cf x y < 0 ∨ cf x y = 0 ∧ x < y

theorem Sb.trans {cf : Nat → Nat → Int} (P : Pre cf) {x y z : Nat} (h : Sb cf x y) (k : Sb cf y z) : Sb cf x z := by
  unfold Sb at *
  have t := P.trans x y z (by omega) (by omega)
  have a1 := P.anti x y
  have a2 := P.anti y x
  have b1 := P.anti y z
  have b2 := P.anti z y
  have c1 := P.anti x z
  have c2 := P.anti z x
  by_cases e : cf x z = 0
  · have t1 := P.trans y z x (by omega) (by omega)
    have t2 := P.trans z x y (by omega) (by omega)
    right
    omega
  · left; omega
theorem Sb.irrefl {cf : Nat → Nat → Int} (P : Pre cf) (x : Nat) : ¬ Sb cf x x := by
  unfold Sb
  have := P.anti x x
  omega
theorem Sb.asymm {cf : Nat → Nat → Int} (P : Pre cf) {x y : Nat} (h : Sb cf x y) : ¬ Sb cf y x := fun k => Sb.irrefl P x (h.trans P k)
theorem Sb.of_lt {cf : Nat → Nat → Int} {x y : Nat} (h : ltOf cf x y = true) : Sb cf x y := Or.inl (of_decide_eq_true h)
theorem Sb.of_not {cf : Nat → Nat → Int} (P : Pre cf) {x y : Nat} (h : ltOf cf y x = false) (hl : x < y) : Sb cf x y := by
  have h' : ¬ cf y x < 0 := of_decide_eq_false h
  have := P.anti x y
  have := P.anti y x
  unfold Sb
  omega

/-- Sorted strictly on [a, b). -/
def SS (cf : Nat → Nat → Int) (a b : Nat) (d : Array Nat) : Prop := ∀ i j, a ≤ i → i < j → j < b → Sb cf d[i]! d[j]!
/-- Each element of [a, m) is an earlier index than each of [m, b). -/
def Bf (a m b : Nat) (d : Array Nat) : Prop := ∀ i j, a ≤ i → i < m → m ≤ j → j < b → d[i]! < d[j]!

theorem SS.congr {cf : Nat → Nat → Int} {a b : Nat} {d d' : Array Nat} (h : SS cf a b d) (e : ∀ i, a ≤ i → i < b → d'[i]! = d[i]!) : SS cf a b d' := by
  intro i j h1 h2 h3
  rw [e i h1 (by omega), e j (by omega) h3]
  exact h i j h1 h2 h3
theorem SS.mono {cf : Nat → Nat → Int} {a b a' b' : Nat} {d : Array Nat} (h : SS cf a b d) (h1 : a ≤ a') (h2 : b' ≤ b) : SS cf a' b' d :=
  fun i j i1 i2 i3 => h i j (by omega) i2 (by omega)
theorem SS.out {cf : Nat → Nat → Int} {a b p q : Nat} {d d' : Array Nat} (h : SS cf a b d) (P : PermIn p q d d') (e : b ≤ p ∨ q ≤ a) : SS cf a b d' :=
  h.congr fun i h1 h2 => P.2.1 i (by omega)

/-- Where an element of a permuted range came from. -/
theorem PermIn.img {a b : Nat} {d d' : Array Nat} (h : PermIn a b d d') (hb : b ≤ d.size) (i : Nat) (h1 : a ≤ i) (h2 : i < b) : ∃ j, a ≤ j ∧ j < b ∧ d'[i]! = d[j]! :=
  permIn_all d d' a b (fun x => ∃ j, a ≤ j ∧ j < b ∧ x = d[j]!) hb h (fun j j1 j2 => ⟨j, j1, j2, rfl⟩) i h1 h2
theorem Bf.perm {a m b p q : Nat} {d d' : Array Nat} (h : Bf a m b d) (P : PermIn p q d d') (hq : q ≤ d.size) (e : a ≤ p ∧ q ≤ m ∨ m ≤ p ∧ q ≤ b) : Bf a m b d' := by
  intro i j i1 i2 j1 j2
  have hi : ∃ i', a ≤ i' ∧ i' < m ∧ d'[i]! = d[i']! := by
    by_cases hp : p ≤ i ∧ i < q
    · obtain ⟨k, k1, k2, k3⟩ := PermIn.img P hq i hp.1 hp.2
      exact ⟨k, by omega, by omega, k3⟩
    · exact ⟨i, i1, i2, P.2.1 i (by omega)⟩
  have hj : ∃ j', m ≤ j' ∧ j' < b ∧ d'[j]! = d[j']! := by
    by_cases hp : p ≤ j ∧ j < q
    · obtain ⟨k, k1, k2, k3⟩ := PermIn.img P hq j hp.1 hp.2
      exact ⟨k, by omega, by omega, k3⟩
    · exact ⟨j, j1, j2, P.2.1 j (by omega)⟩
  obtain ⟨i', i1', i2', ei⟩ := hi
  obtain ⟨j', j1', j2', ej⟩ := hj
  rw [ei, ej]
  exact h i' j' i1' i2' j1' j2'

/-! ### insertion -/
/-- The state of the inner loop: the element at j on its way down, the others in order. -/
def InsS (cf : Nat → Nat → Int) (a j i : Nat) (d : Array Nat) : Prop :=
  (∀ x y, a ≤ x → x < y → y ≤ i → x ≠ j → y ≠ j → Sb cf d[x]! d[y]!) ∧ (∀ y, j < y → y ≤ i → Sb cf d[j]! d[y]!) ∧ (∀ x, a ≤ x → x ≤ i → x ≠ j → d[x]! < d[j]!)

theorem insInner_S {cf : Nat → Nat → Int} (P : Pre cf) (a i : Nat) : ∀ (j : Nat) (d : Array Nat), a ≤ j → j ≤ i → i < d.size → InsS cf a j i d → SS cf a (i + 1) (insInner (ltOf cf) a j d) ∧ PermIn a (i + 1) d (insInner (ltOf cf) a j d)
  | 0, d, ha, hj, hi, h => by
    unfold insInner
    refine ⟨?_, permIn_refl d _ _⟩
    intro x y h1 h2 h3
    by_cases hx : x = 0
    · subst hx; exact h.2.1 y h2 (by omega)
    · exact h.1 x y h1 h2 (by omega) hx (by omega)
  | j + 1, d, ha, hj, hi, h => by
    unfold insInner
    obtain ⟨q1, q2, q3⟩ := h
    by_cases hc : j + 1 > a ∧ ltOf cf d[j + 1]! d[j]! = true
    · rw [if_pos (by simpa using hc)]
      obtain ⟨c1, c2⟩ := hc
      have g : ∀ x, (swp d (j + 1) j)[x]! = if x = j then d[j + 1]! else if x = j + 1 then d[j]! else d[x]! := fun x => by
        rw [swp_get d (by omega) (by omega)]
      have hs : (swp d (j + 1) j).size = d.size := swp_size _ _ _
      have hp : PermIn a (i + 1) d (swp d (j + 1) j) := swp_permIn d a (i + 1) (j + 1) j (by omega) (by omega) (by omega) (by omega) (by omega)
      have ih := insInner_S P a i j (swp d (j + 1) j) (by omega) (by omega) (by omega) ?_
      · exact ⟨ih.1, permIn_trans _ _ _ _ _ hp ih.2⟩
      · refine ⟨?_, ?_, ?_⟩
        · intro x y h1 h2 h3 n1 n2
          rw [g x, g y, if_neg n1, if_neg n2]
          by_cases e1 : x = j + 1
          · rw [if_pos e1, if_neg (by omega)]
            exact q1 j y (by omega) (by omega) h3 (by omega) (by omega)
          · rw [if_neg e1]
            by_cases e2 : y = j + 1
            · rw [if_pos e2]
              exact q1 x j h1 (by omega) (by omega) e1 (by omega)
            · rw [if_neg e2]
              exact q1 x y h1 h2 h3 e1 e2
        · intro y h1 h2
          rw [g j, g y, if_pos rfl, if_neg (by omega)]
          by_cases e2 : y = j + 1
          · rw [if_pos e2]; exact Sb.of_lt c2
          · rw [if_neg e2]; exact q2 y (by omega) h2
        · intro x h1 h2 n1
          rw [g x, g j, if_pos rfl, if_neg n1]
          by_cases e1 : x = j + 1
          · rw [if_pos e1]; exact q3 j (by omega) (by omega) (by omega)
          · rw [if_neg e1]; exact q3 x h1 h2 e1
    · rw [if_neg (by simpa using hc)]
      refine ⟨?_, permIn_refl d _ _⟩
      intro x y h1 h2 h3
      by_cases e1 : x = j + 1
      · subst e1; exact q2 y h2 (by omega)
      · by_cases e2 : y = j + 1
        · subst e2
          have hl : ltOf cf d[j + 1]! d[j]! = false := by
            rcases Bool.eq_false_or_eq_true (ltOf cf d[j + 1]! d[j]!) with hh | hh
            · exact absurd ⟨by omega, hh⟩ hc
            · exact hh
          have s1 : Sb cf d[j]! d[j + 1]! := Sb.of_not P hl (q3 j (by omega) (by omega) (by omega))
          by_cases e3 : x = j
          · subst e3; exact s1
          · exact (q1 x j h1 (by omega) (by omega) e1 (by omega)).trans P s1
        · exact q1 x y h1 h2 (by omega) e1 e2

theorem insOuter_S {cf : Nat → Nat → Int} (P : Pre cf) (a b : Nat) : ∀ (n i : Nat) (d : Array Nat), n = b - i → a < i → i ≤ b → b ≤ d.size → SS cf a i d → Bf a i b d → (∀ x y, i ≤ x → x < y → y < b → d[x]! < d[y]!) →
    SS cf a b (insOuter (ltOf cf) a b i d) ∧ PermIn a b d (insOuter (ltOf cf) a b i d)
  | 0, i, d, hn, ha, hi, hb, h1, _, _ => by
    obtain rfl : i = b := by omega
    unfold insOuter
    rw [if_neg (by omega)]
    exact ⟨h1, permIn_refl d _ _⟩
  | n + 1, i, d, hn, ha, hi, hb, h1, h2, h3 => by
    unfold insOuter
    rw [if_pos (by omega)]
    have ii := insInner_S P a i i d (by omega) (Nat.le_refl _) (by omega) ⟨fun x y x1 x2 x3 x4 x5 => h1 x y x1 x2 (by omega), fun y y1 y2 => by omega, fun x x1 x2 x3 => h2 x i x1 (by omega) (Nat.le_refl _) (by omega)⟩
    have hs := ii.2.1
    have hp : PermIn a b d (insInner (ltOf cf) a i d) := permIn_mono d _ a (i + 1) a b (Nat.le_refl _) (by omega) hb ii.2
    have hbf : Bf a (i + 1) b d := by
      intro x y x1 x2 y1 y2
      by_cases e : x = i
      · subst e; exact h3 x y (Nat.le_refl _) (by omega) y2
      · exact h2 x y x1 (by omega) (by omega) y2
    have r := insOuter_S P a b n (i + 1) (insInner (ltOf cf) a i d) (by omega) (by omega) (by omega) (by omega) ii.1 (hbf.perm ii.2 (by omega) (Or.inl ⟨Nat.le_refl _, Nat.le_refl _⟩)) ?_
    · exact ⟨r.1, permIn_trans _ _ _ _ _ hp r.2⟩
    · intro x y x1 x2 y1
      rw [ii.2.2.1 x (by omega), ii.2.2.1 y (by omega)]
      exact h3 x y (by omega) x2 y1

/-- A range whose indices ascend, sorted by insertion. -/
theorem insertion_S {cf : Nat → Nat → Int} (P : Pre cf) (a b : Nat) (d : Array Nat) (hab : a ≤ b) (hb : b ≤ d.size) (h : ∀ x y, a ≤ x → x < y → y < b → d[x]! < d[y]!) :
    SS cf a b (insertionSort (ltOf cf) d a b) ∧ PermIn a b d (insertionSort (ltOf cf) d a b) := by
  unfold insertionSort
  by_cases e : a = b
  · subst e
    unfold insOuter
    rw [if_neg (by omega)]
    exact ⟨fun i j h1 h2 h3 => by omega, permIn_refl d _ _⟩
  · exact insOuter_S P a b _ (a + 1) d rfl (by omega) (by omega) hb (fun i j h1 h2 h3 => by omega) (fun x y x1 x2 y1 y2 => h x y x1 (by omega) y2) (fun x y x1 x2 y1 => h x y (by omega) x2 y1)

/-! ### the exchange of two ranges -/
/-- t elements from p and t from q are exchanged, of n. -/
def SwR (p q n t : Nat) (d dk : Array Nat) : Prop :=
  PermIn p (q + n) d dk ∧ ∀ x, dk[x]! = if p ≤ x ∧ x < p + t then d[x - p + q]! else if q ≤ x ∧ x < q + t then d[x - q + p]! else d[x]!
theorem SwR.start (p q n : Nat) (d : Array Nat) : SwR p q n 0 d d :=
  ⟨permIn_refl d _ _, fun x => by rw [if_neg (by omega), if_neg (by omega)]⟩
theorem SwR.step {p q n t : Nat} {d dk : Array Nat} (h : SwR p q n t d dk) (ht : t < n) (hpq : p + n ≤ q) (hq : q + n ≤ d.size) : SwR p q n (t + 1) d (swp dk (p + t) (q + t)) := by
  obtain ⟨h1, h2⟩ := h
  have hs : dk.size = d.size := h1.1
  refine ⟨permIn_trans _ _ _ _ _ h1 (swp_permIn dk p (q + n) (p + t) (q + t) (by omega) (by omega) (by omega) (by omega) (by omega)), fun x => ?_⟩
  rw [swp_get dk (by omega) (by omega)]
  by_cases e1 : x = q + t
  · subst e1
    rw [if_pos rfl, h2, if_neg (by omega), if_neg (by omega), if_neg (by omega), if_pos (by omega)]
    congr 1; omega
  · rw [if_neg e1]
    by_cases e2 : x = p + t
    · subst e2
      rw [if_pos rfl, h2, if_neg (by omega), if_neg (by omega), if_pos (by omega)]
      congr 1; omega
    · rw [if_neg e2, h2]
      by_cases c1 : p ≤ x ∧ x < p + t
      · rw [if_pos c1, if_pos (by omega)]
      · rw [if_neg c1, if_neg (show ¬ (p ≤ x ∧ x < p + (t + 1)) by omega)]
        by_cases c2 : q ≤ x ∧ x < q + t
        · rw [if_pos c2, if_pos (show q ≤ x ∧ x < q + (t + 1) by omega)]
        · rw [if_neg c2, if_neg (show ¬ (q ≤ x ∧ x < q + (t + 1)) by omega)]

/-! ### the rotation -/
/-- [a, m) and [m, b) have changed places. -/
def Rot (a m b : Nat) (d dk : Array Nat) : Prop := PermIn a b d dk ∧ ∀ x, a ≤ x → x < b → dk[x]! = if x < a + (b - m) then d[x + (m - a)]! else d[x - (b - m)]!
/-- On the way: i elements ahead of m and j from m on are still to change places. -/
def RotI (a m b i j : Nat) (d dk : Array Nat) : Prop :=
  PermIn a b d dk ∧ 1 ≤ i ∧ 1 ≤ j ∧ a + i ≤ m ∧ m + j ≤ b ∧ ∀ x, a ≤ x → x < b → (if x < a + (b - m) then d[x + (m - a)]! else d[x - (b - m)]!) = if x < m - i ∨ m + j ≤ x then dk[x]! else if x < m - i + j then dk[x + i]! else dk[x - j]!
theorem RotI.start {a m b : Nat} (d : Array Nat) (h1 : a < m) (h2 : m < b) : RotI a m b (m - a) (b - m) d d :=
  ⟨permIn_refl d _ _, by omega, by omega, by omega, by omega, fun x x1 x2 => by
    rw [if_neg (show ¬ (x < m - (m - a) ∨ m + (b - m) ≤ x) by omega)]
    by_cases c : x < a + (b - m)
    · rw [if_pos c, if_pos (by omega)]
    · rw [if_neg c, if_neg (by omega)]⟩
theorem RotI.left {a m b i j : Nat} {d dk dl : Array Nat} (h : RotI a m b i j d dk) (hb : b ≤ d.size) (hij : j < i) (k : SwR (m - i) m j j dk dl) : RotI a m b (i - j) j d dl := by
  obtain ⟨h0, h1, h2, h3, h4, h5⟩ := h
  obtain ⟨k0, k1⟩ := k
  have hs : dk.size = d.size := h0.1
  refine ⟨permIn_trans _ _ _ _ _ h0 (permIn_mono dk dl (m - i) (m + j) a b (by omega) h4 (by omega) k0), by omega, h2, by omega, h4, fun x x1 x2 => ?_⟩
  rw [h5 x x1 x2]
  simp only [k1]
  by_cases c1 : x < m - i ∨ m + j ≤ x
  · rw [if_pos c1, if_pos (by omega), if_neg (by omega), if_neg (by omega)]
  · rw [if_neg c1]
    by_cases c2 : x < m - i + j
    · rw [if_pos c2, if_pos (by omega), if_pos (by omega)]
      congr 1; omega
    · rw [if_neg c2, if_neg (by omega)]
      by_cases c3 : x < m - (i - j) + j
      · rw [if_pos c3, if_neg (by omega), if_pos (by omega)]
        congr 1; omega
      · rw [if_neg c3, if_neg (by omega), if_neg (by omega)]
theorem RotI.right {a m b i j : Nat} {d dk dl : Array Nat} (h : RotI a m b i j d dk) (hb : b ≤ d.size) (hij : i < j) (k : SwR (m - i) (m + j - i) i i dk dl) : RotI a m b i (j - i) d dl := by
  obtain ⟨h0, h1, h2, h3, h4, h5⟩ := h
  obtain ⟨k0, k1⟩ := k
  have hs : dk.size = d.size := h0.1
  refine ⟨permIn_trans _ _ _ _ _ h0 (permIn_mono dk dl (m - i) (m + j - i + i) a b (by omega) (by omega) (by omega) k0), h1, by omega, h3, by omega, fun x x1 x2 => ?_⟩
  rw [h5 x x1 x2]
  simp only [k1]
  by_cases c1 : x < m - i ∨ m + j ≤ x
  · rw [if_pos c1, if_pos (by omega), if_neg (by omega), if_neg (by omega)]
  · rw [if_neg c1]
    by_cases c2 : m + (j - i) ≤ x
    · rw [if_pos (Or.inr c2), if_neg (by omega), if_neg (by omega), if_pos (by omega)]
      congr 1; omega
    · rw [if_neg (show ¬ (x < m - i ∨ m + (j - i) ≤ x) by omega)]
      by_cases c3 : x < m - i + (j - i)
      · rw [if_pos (by omega), if_pos c3, if_neg (by omega), if_neg (by omega)]
      · rw [if_neg c3]
        by_cases c4 : x < m - i + j
        · rw [if_pos c4, if_pos (by omega)]
          congr 1; omega
        · omega
theorem RotI.done {a m b i : Nat} {d dk dl : Array Nat} (h : RotI a m b i i d dk) (hb : b ≤ d.size) (k : SwR (m - i) m i i dk dl) : Rot a m b d dl := by
  obtain ⟨h0, h1, h2, h3, h4, h5⟩ := h
  obtain ⟨k0, k1⟩ := k
  have hs : dk.size = d.size := h0.1
  refine ⟨permIn_trans _ _ _ _ _ h0 (permIn_mono dk dl (m - i) (m + i) a b (by omega) h4 (by omega) k0), fun x x1 x2 => ?_⟩
  rw [h5 x x1 x2, k1]
  by_cases c1 : x < m - i ∨ m + i ≤ x
  · rw [if_pos c1, if_neg (by omega), if_neg (by omega)]
  · rw [if_neg c1]
    by_cases c2 : x < m - i + i
    · rw [if_pos c2, if_pos (by omega)]
      congr 1; omega
    · rw [if_neg c2, if_neg (by omega), if_pos (by omega)]
      congr 1; omega
end Go.Proofs.YtbejikpopealdaaDoor
/-
  Plain law of the stable sort: the merge in place (one element against a range; the cut, the rotation, the two lesser merges); no program is run here.
-/
namespace Go.Proofs.YtbejikpopealdaaDoor
open Go.Sort

theorem Bf.out {a m b p q : Nat} {d d' : Array Nat} (h : Bf a m b d) (P : PermIn p q d d') (e : q ≤ a ∨ b ≤ p) : Bf a m b d' := by
  intro i j h1 h2 h3 h4
  rw [P.2.1 i (by omega), P.2.1 j (by omega)]
  exact h i j h1 h2 h3 h4
theorem Bf.mono {a m b a' b' : Nat} {d : Array Nat} (h : Bf a m b d) (h1 : a ≤ a') (h2 : b' ≤ b) : Bf a' m b' d := fun i j i1 i2 j1 j2 => h i j (by omega) i2 j1 (by omega)

structure SymIn (cf : Nat → Nat → Int) (a m b : Nat) (d : Array Nat) : Prop where
  am : a < m
  mb : m < b
  bs : b ≤ d.size
  s1 : SS cf a m d
  s2 : SS cf m b d
  bf : Bf a m b d
def SymOk (cf : Nat → Nat → Int) (a b : Nat) (d d' : Array Nat) : Prop := SS cf a b d' ∧ PermIn a b d d'

theorem SymIn.no {cf : Nat → Nat → Int} (P : Pre cf) {a m b : Nat} {d : Array Nat} (H : SymIn cf a m b d) {x y : Nat} (h1 : a ≤ x) (h2 : x < m) (h3 : m ≤ y) (h4 : y < b) (h : ltOf cf d[y]! d[x]! = false) : Sb cf d[x]! d[y]! :=
  Sb.of_not P h (H.bf x y h1 h2 h3 h4)

/-- Sorted, or the same place. -/
theorem SS.le {cf : Nat → Nat → Int} (P : Pre cf) {a b : Nat} {d : Array Nat} (h : SS cf a b d) {x y z : Nat} (h1 : a ≤ x) (h2 : x ≤ y) (h3 : y < b) {v : Nat} (_ : z = z) (k : Sb cf d[y]! v) : Sb cf d[x]! v := by
  by_cases e : x = y
  · subst e; exact k
  · exact (h x y h1 (by omega) h3).trans P k
theorem SS.ge {cf : Nat → Nat → Int} (P : Pre cf) {a b : Nat} {d : Array Nat} (h : SS cf a b d) {x y : Nat} (h1 : a ≤ x) (h2 : x ≤ y) (h3 : y < b) {v : Nat} (k : Sb cf v d[x]!) : Sb cf v d[y]! := by
  by_cases e : x = y
  · subst e; exact k
  · exact k.trans P (h x y h1 (by omega) h3)

/-! ### one element ahead of a range -/
def Bs1 (cf : Nat → Nat → Int) (a m b : Nat) (d : Array Nat) (i j : Nat) : Prop :=
  m ≤ i ∧ i ≤ j ∧ j ≤ b ∧ (i = m ∨ ltOf cf d[i - 1]! d[a]! = true) ∧ (j = b ∨ ltOf cf d[j]! d[a]! = false)
def Ch1 (a b k : Nat) (d dk : Array Nat) : Prop := PermIn a b d dk ∧ ∀ x, dk[x]! = if a ≤ x ∧ x < k then d[x + 1]! else if x = k then d[a]! else d[x]!
theorem Ch1.start (a b : Nat) (d : Array Nat) : Ch1 a b a d d :=
  ⟨permIn_refl d _ _, fun x => by
    rw [if_neg (by omega)]
    by_cases e : x = a
    · rw [if_pos e, e]
    · rw [if_neg e]⟩
theorem Ch1.step {a b k : Nat} {d dk : Array Nat} (h : Ch1 a b k d dk) (hk : a ≤ k) (hb : k + 1 < b) (hs : b ≤ d.size) : Ch1 a b (k + 1) d (swp dk k (k + 1)) := by
  obtain ⟨h1, h2⟩ := h
  have e0 : dk.size = d.size := h1.1
  refine ⟨permIn_trans _ _ _ _ _ h1 (swp_permIn dk a b k (k + 1) (by omega) (by omega) (by omega) (by omega) (by omega)), fun x => ?_⟩
  rw [swp_get dk (by omega) (by omega)]
  by_cases e1 : x = k + 1
  · rw [if_pos e1, h2 k, if_neg (by omega), if_pos rfl, if_neg (by omega), if_pos e1]
  · rw [if_neg e1]
    by_cases e2 : x = k
    · rw [if_pos e2, h2 (k + 1), if_neg (by omega), if_neg (by omega), if_pos (by omega), e2]
    · rw [if_neg e2, h2 x]
      by_cases c : a ≤ x ∧ x < k
      · rw [if_pos c, if_pos (by omega)]
      · rw [if_neg c, if_neg e2, if_neg (by omega), if_neg e1]
theorem one_left {cf : Nat → Nat → Int} (P : Pre cf) {a b i : Nat} {d dk : Array Nat} (H : SymIn cf a (a + 1) b d) (hi : Bs1 cf a (a + 1) b d i i) (hc : Ch1 a b (i - 1) d dk) : SymOk cf a b d dk := by
  obtain ⟨i1, _, i3, i4, i5⟩ := hi
  refine ⟨?_, hc.1⟩
  intro x y h1 h2 h3
  rw [hc.2 x, hc.2 y]
  have hy : i - 1 < y → Sb cf d[a]! d[y]! := fun hy => by
    rcases i5 with i5 | i5
    · omega
    · exact H.s2.ge P (x := i) i1 (by omega) h3 (H.no P (Nat.le_refl _) (by omega) i1 (by omega) i5)
  by_cases cx : a ≤ x ∧ x < i - 1
  · rw [if_pos cx]
    by_cases cy : a ≤ y ∧ y < i - 1
    · rw [if_pos cy]; exact H.s2 _ _ (by omega) (by omega) (by omega)
    · rw [if_neg cy]
      by_cases ey : y = i - 1
      · rw [if_pos ey]
        rcases i4 with i4 | i4
        · omega
        · exact H.s2.le P (z := 0) (by omega) (show x + 1 ≤ i - 1 by omega) (by omega) rfl (Sb.of_lt i4)
      · rw [if_neg ey]; exact H.s2 _ _ (by omega) (by omega) h3
  · rw [if_neg cx, if_neg (show ¬ (a ≤ y ∧ y < i - 1) by omega)]
    by_cases ex : x = i - 1
    · rw [if_pos ex, if_neg (by omega)]
      exact hy (by omega)
    · rw [if_neg ex, if_neg (by omega)]
      exact H.s2 _ _ (by omega) h2 h3

/-! ### one element behind a range -/
def Bs2 (cf : Nat → Nat → Int) (a m : Nat) (d : Array Nat) (i j : Nat) : Prop :=
  a ≤ i ∧ i ≤ j ∧ j ≤ m ∧ (i = a ∨ ltOf cf d[m]! d[i - 1]! = false) ∧ (j = m ∨ ltOf cf d[m]! d[j]! = true)
def Ch2 (a m k : Nat) (d dk : Array Nat) : Prop := PermIn a (m + 1) d dk ∧ ∀ x, dk[x]! = if x = k then d[m]! else if k < x ∧ x ≤ m then d[x - 1]! else d[x]!
theorem Ch2.start (a m : Nat) (d : Array Nat) : Ch2 a m m d d :=
  ⟨permIn_refl d _ _, fun x => by
    by_cases e : x = m
    · rw [if_pos e, e]
    · rw [if_neg e, if_neg (by omega)]⟩
theorem Ch2.step {a m k : Nat} {d dk : Array Nat} (h : Ch2 a m (k + 1) d dk) (hk : a ≤ k) (hb : k + 1 ≤ m) (hs : m < d.size) : Ch2 a m k d (swp dk (k + 1) k) := by
  obtain ⟨h1, h2⟩ := h
  have e0 : dk.size = d.size := h1.1
  refine ⟨permIn_trans _ _ _ _ _ h1 (swp_permIn dk a (m + 1) (k + 1) k (by omega) (by omega) (by omega) (by omega) (by omega)), fun x => ?_⟩
  rw [swp_get dk (by omega) (by omega)]
  by_cases e1 : x = k
  · rw [if_pos e1, h2 (k + 1), if_pos rfl, if_pos e1]
  · rw [if_neg e1, if_neg e1]
    by_cases e2 : x = k + 1
    · rw [if_pos e2, h2 k, if_neg (by omega), if_neg (by omega), if_pos (by omega), e2]
      rfl
    · rw [if_neg e2, h2 x, if_neg e2]
      by_cases c : k < x ∧ x ≤ m
      · rw [if_pos c, if_pos (by omega)]
      · rw [if_neg c, if_neg (by omega)]
theorem one_right {cf : Nat → Nat → Int} (P : Pre cf) {a m i : Nat} {d dk : Array Nat} (H : SymIn cf a m (m + 1) d) (hi : Bs2 cf a m d i i) (hc : Ch2 a m i d dk) : SymOk cf a (m + 1) d dk := by
  obtain ⟨i1, _, i3, i4, i5⟩ := hi
  refine ⟨?_, hc.1⟩
  intro x y h1 h2 h3
  rw [hc.2 x, hc.2 y]
  by_cases ex : x = i
  · rw [if_pos ex, if_neg (by omega), if_pos (by omega)]
    rcases i5 with i5 | i5
    · omega
    · exact H.s1.ge P (x := i) i1 (by omega) (by omega) (Sb.of_lt i5)
  · rw [if_neg ex]
    by_cases cx : i < x ∧ x ≤ m
    · rw [if_pos cx, if_neg (by omega), if_pos (by omega)]
      exact H.s1 _ _ (by omega) (by omega) (by omega)
    · rw [if_neg cx]
      by_cases ey : y = i
      · rw [if_pos ey]
        rcases i4 with i4 | i4
        · omega
        · exact H.s1.le P (z := 0) h1 (show x ≤ i - 1 by omega) (by omega) rfl (H.no P (by omega) (by omega) (Nat.le_refl _) (by omega) i4)
      · rw [if_neg ey]
        by_cases cy : i < y ∧ y ≤ m
        · rw [if_pos cy]; exact H.s1 _ _ h1 (by omega) (by omega)
        · rw [if_neg cy]; exact H.s1 _ _ h1 h2 (by omega)

/-! ### the cut -/
/-- What the search of the cut keeps: r is the upper end, s the lower. -/
def Cut (cf : Nat → Nat → Int) (lo hi p : Nat) (d : Array Nat) (s r : Nat) : Prop :=
  lo ≤ s ∧ s ≤ r ∧ r ≤ hi ∧ (s = lo ∨ ltOf cf d[p - (s - 1)]! d[s - 1]! = false) ∧ (r = hi ∨ ltOf cf d[p - r]! d[r]! = true)

theorem Rot.triv {a m b : Nat} (d : Array Nat) (h1 : a ≤ m) (h2 : m ≤ b) (h : ¬ (a < m ∧ m < b)) : Rot a m b d d :=
  ⟨permIn_refl d _ _, fun x x1 x2 => by
    by_cases c : x < a + (b - m)
    · rw [if_pos c]; congr 1; omega
    · rw [if_neg c]; congr 1; omega⟩

/-- Behind the rotation: two pairs of sorted ranges, the first pair ahead of the second. -/
structure SymMid (cf : Nat → Nat → Int) (a s mid e b : Nat) (d : Array Nat) : Prop where
  hs : a ≤ s
  sm : s ≤ mid
  me : mid ≤ e
  eb : e ≤ b
  amd : a < mid
  mdb : mid < b
  bs : b ≤ d.size
  s1 : SS cf a s d
  s2 : SS cf s mid d
  s3 : SS cf mid e d
  s4 : SS cf e b d
  b1 : Bf a s mid d
  b2 : Bf mid e b d
  cr : ∀ x y, a ≤ x → x < mid → mid ≤ y → y < b → Sb cf d[x]! d[y]!

theorem sym_mid {cf : Nat → Nat → Int} (P : Pre cf) {a m b mid s lo hi : Nat} {d d1 : Array Nat} (H : SymIn cf a m b d) (hm1 : 2 * mid ≤ a + b) (hm2 : a + b < 2 * mid + 2) (h2 : a + 2 ≤ b)
    (hlo : lo = if mid < m then mid + m - b else a) (hhi : hi = if mid < m then mid else m) (C : Cut cf lo hi (mid + m - 1) d s s) (R : Rot s m (mid + m - s) d d1) : SymMid cf a s mid (mid + m - s) b d1 ∧ PermIn a b d d1 := by
  obtain ⟨c1, _, c3, c4, c5⟩ := C
  have am := H.am
  have mb := H.mb
  have bs := H.bs
  have hs : d1.size = d.size := R.1.1
  have L : a ≤ s ∧ s ≤ m ∧ s ≤ mid ∧ mid + m - s ≤ b ∧ m ≤ mid + m - s ∧ (lo = a ∨ lo = mid + m - b) ∧ (hi = m ∨ hi = mid) := by
    by_cases c : mid < m
    · rw [if_pos c] at hlo hhi; omega
    · rw [if_neg c] at hlo hhi; omega
  obtain ⟨l1, l2, l3, l4, l5, l6, l7⟩ := L
  generalize he : mid + m - s = e at *
  have hp : PermIn a b d d1 := permIn_mono d d1 s e a b l1 l4 bs R.1
  -- where each place came from
  have g1 : ∀ x, x < s → d1[x]! = d[x]! := fun x hx => R.1.2.1 x (Or.inl hx)
  have g2 : ∀ x, s ≤ x → x < mid → d1[x]! = d[x + (m - s)]! := fun x x1 x2 => by rw [R.2 x x1 (by omega), if_pos (by omega)]
  have g3 : ∀ x, mid ≤ x → x < e → d1[x]! = d[x - (e - m)]! := fun x x1 x2 => by rw [R.2 x (by omega) x2, if_neg (by omega)]
  have g4 : ∀ x, e ≤ x → d1[x]! = d[x]! := fun x hx => R.1.2.1 x (Or.inr hx)
  -- across the cut
  have k1 : ∀ x y, a ≤ x → x < s → e ≤ y → y < b → Sb cf d[x]! d[y]! := fun x y x1 x2 y1 y2 => by
    rcases c4 with c4 | c4
    · omega
    · have e1 : mid + m - 1 - (s - 1) = e := by omega
      rw [e1] at c4
      exact H.s1.le P (z := 0) x1 (show x ≤ s - 1 by omega) (by omega) rfl (H.s2.ge P (x := e) (by omega) y1 y2 (H.no P (by omega) (by omega) (by omega) (by omega) c4))
  have k2 : ∀ x y, m ≤ x → x < e → s ≤ y → y < m → Sb cf d[x]! d[y]! := fun x y x1 x2 y1 y2 => by
    rcases c5 with c5 | c5
    · omega
    · have e1 : mid + m - 1 - s = e - 1 := by omega
      rw [e1] at c5
      exact H.s2.le P (z := 0) x1 (show x ≤ e - 1 by omega) (by omega) rfl (H.s1.ge P (x := s) (by omega) y1 y2 (Sb.of_lt c5))
  refine ⟨⟨l1, l3, by omega, l4, by omega, by omega, by omega, ?_, ?_, ?_, ?_, ?_, ?_, ?_⟩, hp⟩
  · intro x y h1 h2 h3
    rw [g1 x (by omega), g1 y h3]
    exact H.s1 x y h1 h2 (by omega)
  · intro x y h1 h2 h3
    rw [g2 x h1 (by omega), g2 y (by omega) h3]
    exact H.s2 _ _ (by omega) (by omega) (by omega)
  · intro x y h1 h2 h3
    rw [g3 x h1 (by omega), g3 y (by omega) h3]
    exact H.s1 _ _ (by omega) (by omega) (by omega)
  · intro x y h1 h2 h3
    rw [g4 x h1, g4 y (by omega)]
    exact H.s2 _ _ (by omega) (by omega) (by omega)
  · intro x y h1 h2 h3 h4
    rw [g1 x h2, g2 y h3 h4]
    exact H.bf _ _ h1 (by omega) (by omega) (by omega)
  · intro x y h1 h2 h3 h4
    rw [g3 x h1 h2, g4 y h3]
    exact H.bf _ _ (by omega) (by omega) (by omega) (by omega)
  · intro x y h1 h2 h3 h4
    by_cases cx : x < s
    · rw [g1 x cx]
      by_cases cy : y < e
      · rw [g3 y h3 cy]; exact H.s1 _ _ h1 (by omega) (by omega)
      · rw [g4 y (by omega)]; exact k1 x y h1 cx (by omega) h4
    · rw [g2 x (by omega) h2]
      by_cases cy : y < e
      · rw [g3 y h3 cy]; exact k2 _ _ (by omega) (by omega) (by omega) (by omega)
      · rw [g4 y (by omega)]; exact H.s2 _ _ (by omega) (by omega) h4

theorem SymMid.left {cf : Nat → Nat → Int} {a s mid e b : Nat} {d : Array Nat} (M : SymMid cf a s mid e b d) (h1 : a < s) (h2 : s < mid) : SymIn cf a s mid d :=
  ⟨h1, h2, by have := M.bs; have := M.mdb; omega, M.s1, M.s2, M.b1⟩
theorem SymMid.left0 {cf : Nat → Nat → Int} {a s mid e b : Nat} {d : Array Nat} (M : SymMid cf a s mid e b d) (h : ¬ (a < s ∧ s < mid)) : SymOk cf a mid d d := by
  refine ⟨?_, permIn_refl d _ _⟩
  have := M.hs
  have := M.sm
  by_cases c : a < s
  · exact M.s1.mono (Nat.le_refl _) (by omega)
  · exact M.s2.mono (by omega) (Nat.le_refl _)
theorem SymMid.right {cf : Nat → Nat → Int} {a s mid e b : Nat} {d d2 : Array Nat} (M : SymMid cf a s mid e b d) (K : SymOk cf a mid d d2) (h1 : mid < e) (h2 : e < b) : SymIn cf mid e b d2 :=
  ⟨h1, h2, by have := M.bs; have := K.2.1; omega, M.s3.out K.2 (Or.inr (Nat.le_refl _)), M.s4.out K.2 (Or.inr M.me), M.b2.out K.2 (Or.inl (Nat.le_refl _))⟩
theorem SymMid.right0 {cf : Nat → Nat → Int} {a s mid e b : Nat} {d d2 : Array Nat} (M : SymMid cf a s mid e b d) (K : SymOk cf a mid d d2) (h : ¬ (mid < e ∧ e < b)) : SymOk cf mid b d2 d2 := by
  refine ⟨?_, permIn_refl d2 _ _⟩
  have := M.me
  have := M.eb
  by_cases c : mid < e
  · exact (M.s3.out K.2 (Or.inr (Nat.le_refl _))).mono (Nat.le_refl _) (by omega)
  · exact (M.s4.out K.2 (Or.inr M.me)).mono (by omega) (Nat.le_refl _)
theorem SymMid.done {cf : Nat → Nat → Int} {a s mid e b : Nat} {d d2 d3 : Array Nat} (M : SymMid cf a s mid e b d) (K : SymOk cf a mid d d2) (K2 : SymOk cf mid b d2 d3) : SymOk cf a b d d3 := by
  have bs := M.bs
  have h1 := M.amd
  have h2 := M.mdb
  have z2 : d2.size = d.size := K.2.1
  have z3 : d3.size = d2.size := K2.2.1
  refine ⟨?_, permIn_trans _ _ _ _ _ (permIn_mono d d2 a mid a b (Nat.le_refl _) (by omega) bs K.2) (permIn_mono d2 d3 mid b a b (by omega) (Nat.le_refl _) (by omega) K2.2)⟩
  intro x y x1 xy y1
  by_cases cx : x < mid
  · have ex : d3[x]! = d2[x]! := K2.2.2.1 x (Or.inl cx)
    by_cases cy : y < mid
    · rw [ex, K2.2.2.1 y (Or.inl cy)]
      exact K.1 x y x1 xy cy
    · obtain ⟨x', a1, a2, a3⟩ := PermIn.img K.2 (by omega) x x1 cx
      obtain ⟨y', b1, b2, b3⟩ := PermIn.img K2.2 (by omega) y (by omega) y1
      rw [ex, a3, b3, K.2.2.1 y' (Or.inr b1)]
      exact M.cr x' y' a1 a2 b1 b2
  · exact K2.1 x y (by omega) xy y1
end Go.Proofs.YtbejikpopealdaaDoor
/-
  Plain law of the stable sort: the stages over blocks of doubling size; the sorted list of indices is one alone; no program is run here.
-/
namespace Go.Proofs.YtbejikpopealdaaDoor
open Go.Sort

/-- Blocks of size s are sorted; at each block's head all ahead are earlier indices. -/
def Stg (cf : Nat → Nat → Int) (s n : Nat) (d : Array Nat) : Prop := d.size = n ∧ ∀ t, SS cf (t * s) (min ((t + 1) * s) n) d ∧ Bf 0 (t * s) n d

/-- The first phase: u blocks of 20 are sorted by insertion. -/
def Ph1 (cf : Nat → Nat → Int) (n u : Nat) (d : Array Nat) : Prop :=
  d.size = n ∧ (∀ t, t < u → SS cf (t * 20) ((t + 1) * 20) d) ∧ (∀ t, t ≤ u → Bf 0 (t * 20) n d) ∧ ∀ x y, u * 20 ≤ y → x < y → y < n → d[x]! < d[y]!
theorem Ph1.start (cf : Nat → Nat → Int) (n : Nat) (d : Array Nat) (h : d.size = n) (h2 : ∀ x y, x < y → y < n → d[x]! < d[y]!) : Ph1 cf n 0 d :=
  ⟨h, fun t ht => by omega, fun t ht x y _ x2 y1 y2 => by omega, fun x y _ xy yn => h2 x y xy yn⟩
theorem Ph1.perm {cf : Nat → Nat → Int} {n u b : Nat} {d d' : Array Nat} (P : Pre cf) (h : Ph1 cf n u d) (hb : u * 20 ≤ b) (hn : b ≤ n) (e : d' = insertionSort (ltOf cf) d (u * 20) b) :
    SS cf (u * 20) b d' ∧ PermIn (u * 20) b d d' ∧ (∀ t, t < u → SS cf (t * 20) ((t + 1) * 20) d') ∧ (∀ t, t ≤ u → Bf 0 (t * 20) n d') := by
  obtain ⟨h1, h2, h3, h4⟩ := h
  have I := insertion_S P (u * 20) b d hb (by omega) (fun x y x1 xy yb => h4 x y (by omega) xy (by omega))
  rw [← e] at I
  refine ⟨I.1, I.2, fun t ht => (h2 t ht).out I.2 (Or.inl (by omega)), fun t ht => (h3 t ht).perm I.2 (by omega) (Or.inr ⟨by omega, hn⟩)⟩
theorem Ph1.step {cf : Nat → Nat → Int} {n u : Nat} {d d' : Array Nat} (P : Pre cf) (h : Ph1 cf n u d) (hn : u * 20 + 20 ≤ n) (e : d' = insertionSort (ltOf cf) d (u * 20) (u * 20 + 20)) : Ph1 cf n (u + 1) d' ∧ PermIn 0 n d d' := by
  obtain ⟨k1, k2, k3, k4⟩ := h.perm P (by omega) hn e
  obtain ⟨h1, h2, h3, h4⟩ := h
  have hs : d'.size = d.size := k2.1
  have asc : ∀ x y, (u + 1) * 20 ≤ y → x < y → y < n → d'[x]! < d'[y]! := fun x y y1 xy yn => by
    rw [k2.2.1 y (by omega)]
    by_cases c : u * 20 ≤ x ∧ x < u * 20 + 20
    · obtain ⟨x', q1, q2, q3⟩ := PermIn.img k2 (by omega) x c.1 c.2
      rw [q3]; exact h4 x' y (by omega) (by omega) yn
    · rw [k2.2.1 x (by omega)]; exact h4 x y (by omega) xy yn
  refine ⟨⟨by omega, ?_, ?_, asc⟩, permIn_mono d d' _ _ 0 n (by omega) hn (by omega) k2⟩
  · intro t ht
    by_cases c : t = u
    · subst c; exact k1.mono (Nat.le_refl _) (by omega)
    · exact k3 t (by omega)
  · intro t ht
    by_cases c : t = u + 1
    · subst c; intro x y _ x2 y1 y2; exact asc x y y1 (by omega) y2
    · exact k4 t (by omega)
theorem Ph1.done {cf : Nat → Nat → Int} {n u : Nat} {d d' : Array Nat} (P : Pre cf) (h : Ph1 cf n u d) (hu : u * 20 ≤ n) (hn : n < u * 20 + 20) (e : d' = insertionSort (ltOf cf) d (u * 20) n) : Stg cf 20 n d' ∧ PermIn 0 n d d' := by
  obtain ⟨k1, k2, k3, k4⟩ := h.perm P hu (Nat.le_refl _) e
  have hs : d'.size = d.size := k2.1
  have h1 := h.1
  refine ⟨⟨by omega, fun t => ?_⟩, permIn_mono d d' _ _ 0 n (by omega) (Nat.le_refl _) (by omega) k2⟩
  by_cases c : t < u
  · exact ⟨(k3 t c).mono (Nat.le_refl _) (Nat.min_le_left _ _), k4 t (by omega)⟩
  · by_cases c2 : t = u
    · subst c2; exact ⟨k1.mono (Nat.le_refl _) (Nat.min_le_right _ _), k4 t (Nat.le_refl _)⟩
    · exact ⟨fun x y x1 xy y1 => by omega, fun x y _ _ y1 y2 => by omega⟩

/-- The next phases: u pairs of blocks of size s are merged; c is where the next pair begins. -/
def Ph2 (cf : Nat → Nat → Int) (s n u c : Nat) (d : Array Nat) : Prop :=
  c = u * (2 * s) ∧ d.size = n ∧ (∀ t, t < u → SS cf (t * (2 * s)) ((t + 1) * (2 * s)) d) ∧ (∀ t, t ≤ u → Bf 0 (t * (2 * s)) n d) ∧ ∀ t, 2 * u ≤ t → SS cf (t * s) (min ((t + 1) * s) n) d ∧ Bf 0 (t * s) n d
theorem Ph2.start {cf : Nat → Nat → Int} {s n : Nat} {d : Array Nat} (h : Stg cf s n d) : Ph2 cf s n 0 0 d :=
  ⟨by simp, h.1, fun t ht => by omega, fun t ht x y _ x2 => by (have : t = 0 := by omega); subst this; simp at x2, fun t _ => h.2 t⟩
theorem twice (u s : Nat) : 2 * u * s = u * (2 * s) := by rw [Nat.mul_comm 2 u, Nat.mul_assoc]
theorem mul_le {t u : Nat} (s : Nat) (h : t + 1 ≤ u) : t * s + s ≤ u * s := by have := Nat.mul_le_mul_right s h; rwa [Nat.succ_mul] at this
theorem Ph2.sym {cf : Nat → Nat → Int} {s n u c b : Nat} {d : Array Nat} (h : Ph2 cf s n u c d) (hs : 0 < s) (h1 : c + s < b) (h2 : b ≤ c + 2 * s) (h3 : b ≤ n) : SymIn cf c (c + s) b d := by
  obtain ⟨rfl, q1, q2, q3, q4⟩ := h
  have t0 : (2 * u) * s = u * (2 * s) := twice u s
  have t1 : (2 * u + 1) * s = u * (2 * s) + s := by rw [Nat.succ_mul, t0]
  have t2 : (2 * u + 1 + 1) * s = u * (2 * s) + 2 * s := by rw [Nat.succ_mul, t1]; omega
  obtain ⟨a1, a2⟩ := q4 (2 * u) (Nat.le_refl _)
  obtain ⟨a3, a4⟩ := q4 (2 * u + 1) (by omega)
  rw [t0, t1] at a1
  rw [t1, t2] at a3
  rw [t1] at a4
  generalize u * (2 * s) = c at *
  exact ⟨by omega, h1, by omega, a1.mono (Nat.le_refl _) (by omega), a3.mono (Nat.le_refl _) (by omega), a4.mono (Nat.zero_le _) h3⟩
theorem Ph2.perm {cf : Nat → Nat → Int} {s n u c b : Nat} {d d' : Array Nat} (h : Ph2 cf s n u c d) (h1 : c ≤ b) (h3 : b ≤ n) (k : SymOk cf c b d d') :
    (∀ t, t < u → SS cf (t * (2 * s)) ((t + 1) * (2 * s)) d') ∧ (∀ t, t ≤ u → Bf 0 (t * (2 * s)) n d') := by
  obtain ⟨rfl, q1, q2, q3, q4⟩ := h
  refine ⟨fun t ht => ?_, fun t ht => ?_⟩
  · have := mul_le (2 * s) (show t + 1 ≤ u from ht)
    exact (q2 t ht).out k.2 (Or.inl (by rw [Nat.succ_mul]; exact this))
  · have := Nat.mul_le_mul_right (2 * s) ht
    exact (q3 t ht).perm k.2 (by omega) (Or.inr ⟨this, h3⟩)
theorem Ph2.step {cf : Nat → Nat → Int} {s n u c : Nat} {d d' : Array Nat} (h : Ph2 cf s n u c d) (hs : 0 < s) (hb : c + 2 * s ≤ n) (k : SymOk cf c (c + 2 * s) d d') : Ph2 cf s n (u + 1) (c + 2 * s) d' ∧ PermIn 0 n d d' := by
  obtain ⟨p1, p2⟩ := h.perm (by omega) hb k
  obtain ⟨rfl, q1, q2, q3, q4⟩ := h
  have z : d'.size = d.size := k.2.1
  have t0 : (2 * u) * s = u * (2 * s) := twice u s
  have t3 : (u + 1) * (2 * s) = u * (2 * s) + 2 * s := Nat.succ_mul _ _
  have t4 : (2 * (u + 1)) * s = u * (2 * s) + 2 * s := by rw [twice, t3]
  refine ⟨⟨t3.symm, by omega, ?_, ?_, ?_⟩, permIn_mono d d' _ _ 0 n (by omega) hb (by omega) k.2⟩
  · intro t ht
    by_cases e : t = u
    · subst e; rw [t3]; exact k.1
    · exact p1 t (by omega)
  · intro t ht
    by_cases e : t = u + 1
    · subst e
      have b := (q4 (2 * (u + 1)) (by omega)).2
      rw [t4] at b
      rw [t3]
      exact b.perm k.2 (by omega) (Or.inl ⟨Nat.zero_le _, Nat.le_refl _⟩)
    · exact p2 t (by omega)
  · intro t ht
    have hm := Nat.mul_le_mul_right s ht
    rw [t4] at hm
    obtain ⟨a1, a2⟩ := q4 t (by omega)
    exact ⟨a1.out k.2 (Or.inr hm), a2.perm k.2 (by omega) (Or.inl ⟨Nat.zero_le _, hm⟩)⟩
theorem Ph2.end {cf : Nat → Nat → Int} {s n u c : Nat} {d d' : Array Nat} (h : Ph2 cf s n u c d) (hc : c ≤ n) (hb : n < c + 2 * s) (k : SymOk cf c n d d') : Stg cf (2 * s) n d' ∧ PermIn 0 n d d' := by
  obtain ⟨p1, p2⟩ := h.perm hc (Nat.le_refl _) k
  obtain ⟨rfl, q1, q2, q3, q4⟩ := h
  have z : d'.size = d.size := k.2.1
  refine ⟨⟨by omega, fun t => ?_⟩, permIn_mono d d' _ _ 0 n (by omega) (Nat.le_refl _) (by omega) k.2⟩
  by_cases e : t < u
  · exact ⟨(p1 t e).mono (Nat.le_refl _) (Nat.min_le_left _ _), p2 t (by omega)⟩
  · by_cases e2 : t = u
    · subst e2; exact ⟨k.1.mono (Nat.le_refl _) (Nat.min_le_right _ _), p2 t (Nat.le_refl _)⟩
    · have hm := mul_le (2 * s) (show u + 1 ≤ t by omega)
      generalize t * (2 * s) = T at *
      exact ⟨fun x y x1 xy y1 => by omega, fun x y _ _ y1 y2 => by omega⟩
theorem Ph2.end0 {cf : Nat → Nat → Int} {s n u c : Nat} {d : Array Nat} (h : Ph2 cf s n u c d) (hc : c ≤ n) (hb : n < c + 2 * s) (he : n ≤ c + s) : Stg cf (2 * s) n d := by
  refine (h.end hc hb (d' := d) ⟨?_, permIn_refl d _ _⟩).1
  obtain ⟨rfl, q1, q2, q3, q4⟩ := h
  have t0 : (2 * u) * s = u * (2 * s) := twice u s
  have t1 : (2 * u + 1) * s = u * (2 * s) + s := by rw [Nat.succ_mul, t0]
  have a := (q4 (2 * u) (Nat.le_refl _)).1
  rw [t0, t1] at a
  exact a.mono (Nat.le_refl _) (by omega)
theorem Stg.sorted {cf : Nat → Nat → Int} {s n : Nat} {d : Array Nat} (h : Stg cf s n d) (hs : n ≤ s) : SS cf 0 n d := by
  have := (h.2 0).1
  rw [Nat.zero_mul] at this
  exact this.mono (Nat.le_refl _) (by omega)

/-! ### the one sorted list -/
/-- xs is the indices below n, in the strict order. -/
def Ordd (cf : Nat → Nat → Int) (n : Nat) (xs : List Nat) : Prop := xs.Perm (List.range n) ∧ xs.Pairwise (Sb cf)
theorem Ordd.unique {cf : Nat → Nat → Int} (P : Pre cf) {n : Nat} {xs ys : List Nat} (h : Ordd cf n xs) (k : Ordd cf n ys) : xs = ys :=
  List.Perm.eq_of_pairwise (fun _ _ _ _ h1 h2 => absurd h2 (Sb.asymm P h1)) h.2 k.2 (h.1.trans k.1.symm)
theorem Ordd.of {cf : Nat → Nat → Int} {n : Nat} {d d' : Array Nat} (hd : d.toList = List.range n) (hp : PermIn 0 n d d') (hs : SS cf 0 n d') : Ordd cf n d'.toList := by
  have z0 : d.size = n := by rw [← Array.length_toList, hd, List.length_range]
  have z1 : d'.size = n := by rw [hp.1, z0]
  obtain ⟨_, _, q⟩ := hp
  have e1 : d'.extract 0 n = d' := by rw [← z1]; exact Array.extract_size
  have e2 : d.extract 0 n = d := by rw [← z0]; exact Array.extract_size
  rw [e1, e2, hd] at q
  refine ⟨q, ?_⟩
  rw [List.pairwise_iff_getElem]
  intro i j hi hj hij
  have hi' : i < d'.size := by simpa using hi
  have hj' : j < d'.size := by simpa using hj
  have := hs i j (Nat.zero_le _) hij (by omega)
  rw [getElem!_pos d' j hj', getElem!_pos d' i hi'] at this
  simpa using this
end Go.Proofs.YtbejikpopealdaaDoor
