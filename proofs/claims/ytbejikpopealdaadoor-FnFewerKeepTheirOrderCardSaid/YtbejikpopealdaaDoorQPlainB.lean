/-
  Plain laws: sixteen bytes and the two halves that they spell; bytes alike and bits alike; which bytes are a mapped address of IPv4.
-/
import Derived.Test.YtbejikpopealdaaDoorQCplB
namespace Go.Proofs.YtbejikpopealdaaDoor

theorem be8_bd {x0 x1 x2 x3 x4 x5 x6 x7 : Int} (h0 : Byt x0) (h1 : Byt x1) (h2 : Byt x2) (h3 : Byt x3) (h4 : Byt x4) (h5 : Byt x5) (h6 : Byt x6) (h7 : Byt x7) :
    0 ≤ be8 x0 x1 x2 x3 x4 x5 x6 x7 ∧ be8 x0 x1 x2 x3 x4 x5 x6 x7 < 18446744073709551616 := by
  unfold Byt at *; unfold be8; omega
theorem lo4_bd {x0 x1 x2 x3 : Int} (h0 : Byt x0) (h1 : Byt x1) (h2 : Byt x2) (h3 : Byt x3) : 0 ≤ lo4 x0 x1 x2 x3 ∧ lo4 x0 x1 x2 x3 < 18446744073709551616 := by
  unfold Byt at *; unfold lo4; omega

theorem byt_getD {zs : List Int} (h : ∀ z ∈ zs, Byt z) (i : Nat) : Byt (zs.getD i 0) := by
  rcases Nat.lt_or_ge i zs.length with hi | hi
  · rw [List.getD_eq_getElem?_getD, List.getElem?_eq_getElem hi]; exact h _ (List.getElem_mem hi)
  · rw [List.getD_eq_getElem?_getD, List.getElem?_eq_none hi]; exact ⟨by simp, by simp⟩

theorem halves_bd {zs : List Int} (h : ∀ z ∈ zs, Byt z) : 0 ≤ hiOf zs ∧ hiOf zs < 18446744073709551616 ∧ 0 ≤ loOf zs ∧ loOf zs < 18446744073709551616 := by
  have b := byt_getD h
  have a1 : 0 ≤ hiOf zs ∧ hiOf zs < 18446744073709551616 := by
    unfold hiOf; split
    · exact be8_bd (b 0) (b 1) (b 2) (b 3) (b 4) (b 5) (b 6) (b 7)
    · omega
  have a2 : 0 ≤ loOf zs ∧ loOf zs < 18446744073709551616 := by
    unfold loOf; split
    · exact be8_bd (b 8) (b 9) (b 10) (b 11) (b 12) (b 13) (b 14) (b 15)
    · split
      · exact lo4_bd (b 0) (b 1) (b 2) (b 3)
      · omega
  exact ⟨a1.1, a1.2, a2.1, a2.2⟩

/-- The bytes of the two halves of sixteen bytes are these bytes. -/
theorem bytes16_halves {zs : List Int} (h : ∀ z ∈ zs, Byt z) (hl : zs.length = 16) : bytes16 (hiOf zs) (loOf zs) = zs := by
  unfold hiOf loOf
  rw [if_pos hl, if_pos hl]
  match zs, hl with
  | [x0, x1, x2, x3, x4, x5, x6, x7, x8, x9, x10, x11, x12, x13, x14, x15], _ =>
    have b0 := h x0 (by simp); have b1 := h x1 (by simp); have b2 := h x2 (by simp); have b3 := h x3 (by simp)
    have b4 := h x4 (by simp); have b5 := h x5 (by simp); have b6 := h x6 (by simp); have b7 := h x7 (by simp)
    have b8 := h x8 (by simp); have b9 := h x9 (by simp); have b10 := h x10 (by simp); have b11 := h x11 (by simp)
    have b12 := h x12 (by simp); have b13 := h x13 (by simp); have b14 := h x14 (by simp); have b15 := h x15 (by simp)
    unfold Byt at *
    clear h
    simp only [bytes16, be8, List.getD_cons_zero, List.getD_cons_succ, List.cons.injEq, and_true]
    refine ⟨?_, ?_, ?_, ?_, ?_, ?_, ?_, ?_, ?_, ?_, ?_, ?_, ?_, ?_, ?_, ?_⟩ <;> omega

/-- Eight bits alike make a byte alike. -/
theorem byte_of_bits {x y : Int} (hx : Byt x) (hy : Byt y) (h : ∀ i, i < 8 → x / (2 ^ (7 - i) : Nat) % 2 = y / (2 ^ (7 - i) : Nat) % 2) : x = y := by
  have h0 := h 0 (by omega); have h1 := h 1 (by omega); have h2 := h 2 (by omega); have h3 := h 3 (by omega)
  have h4 := h 4 (by omega); have h5 := h 5 (by omega); have h6 := h 6 (by omega); have h7 := h 7 (by omega)
  unfold Byt at *
  simp only [Nat.reduceSub, Nat.reducePow] at h0 h1 h2 h3 h4 h5 h6 h7
  omega

/-- The first r bits of a byte alike. -/
theorem high_of_bits {x y : Int} (hx : Byt x) (hy : Byt y) (r : Nat) (hr : r ≤ 8) : (∀ i, i < r → x / (2 ^ (7 - i) : Nat) % 2 = y / (2 ^ (7 - i) : Nat) % 2) ↔ x / (2 ^ (8 - r) : Nat) = y / (2 ^ (8 - r) : Nat) := by
  constructor
  · intro h
    unfold Byt at *
    have hr' : r = 0 ∨ r = 1 ∨ r = 2 ∨ r = 3 ∨ r = 4 ∨ r = 5 ∨ r = 6 ∨ r = 7 ∨ r = 8 := by omega
    rcases hr' with rfl | rfl | rfl | rfl | rfl | rfl | rfl | rfl | rfl
    all_goals
      first | have h0 := h 0 (by omega) | skip
      first | have h1 := h 1 (by omega) | skip
      first | have h2 := h 2 (by omega) | skip
      first | have h3 := h 3 (by omega) | skip
      first | have h4 := h 4 (by omega) | skip
      first | have h5 := h 5 (by omega) | skip
      first | have h6 := h 6 (by omega) | skip
      first | have h7 := h 7 (by omega) | skip
      clear h
      simp only [Nat.reduceSub, Nat.reducePow] at *
      omega
  · intro h i hi
    obtain ⟨q, hq⟩ : ∃ q, 7 - i = (8 - r) + q := ⟨7 - i - (8 - r), by omega⟩
    rw [hq, Nat.pow_add, Int.natCast_mul, ← Int.ediv_ediv_of_nonneg (Int.natCast_nonneg _), ← Int.ediv_ediv_of_nonneg (Int.natCast_nonneg _), h]

/-- The first 8 k + r bits are alike: k bytes, and r bits of the next. -/
theorem startsB_iff {xs ps : List Int} (hx : ∀ i, Byt (xs.getD i 0)) (hp : ∀ i, Byt (ps.getD i 0)) (k r : Nat) (hr : r < 8) :
    startsB xs ps (8 * k + r) = true ↔ (∀ j, j < k → xs.getD j 0 = ps.getD j 0) ∧ xs.getD k 0 / (2 ^ (8 - r) : Nat) = ps.getD k 0 / (2 ^ (8 - r) : Nat) := by
  unfold startsB
  rw [decide_eq_true_iff]
  constructor
  · intro h
    refine ⟨fun j hj => byte_of_bits (hx j) (hp j) fun i hi => ?_, (high_of_bits (hx k) (hp k) r (by omega)).1 fun i hi => ?_⟩
    · rw [← bitAt_byte xs j i hi, ← bitAt_byte ps j i hi]; exact h _ (by omega)
    · rw [← bitAt_byte xs k i (by omega), ← bitAt_byte ps k i (by omega)]; exact h _ (by omega)
  · rintro ⟨h1, h2⟩ i hi
    have h3 := (high_of_bits (hx k) (hp k) r (by omega)).2 h2
    have e : i = 8 * (i / 8) + i % 8 := by omega
    rw [e, bitAt_byte xs _ _ (by omega), bitAt_byte ps _ _ (by omega)]
    by_cases hk : i / 8 < k
    · rw [h1 _ hk]
    · have : i / 8 = k := by omega
      rw [this]
      exact h3 _ (by omega)

/-- A mapped address, by bits and by bytes. -/
theorem four_mapd {zs : List Int} (h : ∀ z ∈ zs, Byt z) (hl : zs.length = 16) : startsB zs four16 96 = mapd zs := by
  have hb := byt_getD h
  have hs := startsB_iff hb four16_byt 12 0 (by omega)
  rw [Bool.eq_iff_iff, hs]
  match zs, hl with
  | [x0, x1, x2, x3, x4, x5, x6, x7, x8, x9, x10, x11, x12, x13, x14, x15], _ =>
    have b12 := h x12 (by simp)
    unfold Byt at b12
    constructor
    · rintro ⟨h1, -⟩
      have e0 := h1 0 (by omega); have e1 := h1 1 (by omega); have e2 := h1 2 (by omega); have e3 := h1 3 (by omega); have e4 := h1 4 (by omega); have e5 := h1 5 (by omega)
      have e6 := h1 6 (by omega); have e7 := h1 7 (by omega); have e8 := h1 8 (by omega); have e9 := h1 9 (by omega); have e10 := h1 10 (by omega); have e11 := h1 11 (by omega)
      simp [four16] at e0 e1 e2 e3 e4 e5 e6 e7 e8 e9 e10 e11
      simp [mapd, allZ, e0, e1, e2, e3, e4, e5, e6, e7, e8, e9, e10, e11]
    · intro hm
      simp [mapd, allZ] at hm
      obtain ⟨⟨⟨e0, e1, e2, e3, e4, e5, e6, e7, e8, e9⟩, e10⟩, e11⟩ := hm
      subst e0 e1 e2 e3 e4 e5 e6 e7 e8 e9 e10 e11
      refine ⟨fun j hj => ?_, ?_⟩
      · match j, hj with
        | 0, _ => rfl
        | 1, _ => rfl
        | 2, _ => rfl
        | 3, _ => rfl
        | 4, _ => rfl
        | 5, _ => rfl
        | 6, _ => rfl
        | 7, _ => rfl
        | 8, _ => rfl
        | 9, _ => rfl
        | 10, _ => rfl
        | 11, _ => rfl
        | n + 12, h => omega
      · simp [four16]; omega
end Go.Proofs.YtbejikpopealdaaDoor
