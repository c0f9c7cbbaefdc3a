/-
  Plain law: the scope by the two halves is the scope by the sixteen bytes.
-/
import Derived.Test.YtbejikpopealdaaDoorQNetI
import Derived.Test.YtbejikpopealdaaDoorQSpecC
namespace Go.Proofs.YtbejikpopealdaaDoor

/-- A mask of m bits behind k zeros takes the lowest k bits away. -/
theorem and_mask (a k m : Nat) (h : a < 2 ^ (k + m)) : a &&& (2 ^ k * (2 ^ m - 1)) = 2 ^ k * (a / 2 ^ k) := by
  apply Nat.eq_of_testBit_eq
  intro i
  rw [Nat.testBit_and, Nat.testBit_two_pow_mul, Nat.testBit_two_pow_mul, Nat.testBit_two_pow_sub_one, Nat.testBit_div_two_pow]
  by_cases hk : i ≥ k
  · have e : k + (i - k) = i := by omega
    simp only [hk, decide_true, Bool.true_and]
    rw [show i - k + k = i by omega]
    by_cases hm : i - k < m
    · simp [hm]
    · have : a.testBit i = false := Nat.testBit_lt_two_pow (Nat.lt_of_lt_of_le h (Nat.pow_le_pow_right (by omega) (by omega)))
      simp [this]
  · simp [hk]

theorem and192 (x : Int) (h : Byt x) : bits .and .u8 x 192 = x - x % 64 := by
  obtain ⟨h1, h2⟩ := h
  obtain ⟨n, rfl⟩ := Int.eq_ofNat_of_zero_le h1
  have e := and_mask n 6 2 (by show n < 256; omega)
  rw [show (192 : Int) = ((192 : Nat) : Int) from rfl, u8_and_nat n 192 (by omega) (by omega), show (192 : Nat) = 2 ^ 6 * (2 ^ 2 - 1) from rfl, e]
  omega
theorem and65472 (x : Int) (h1 : 0 ≤ x) (h2 : x < 65536) : bits .and .u16 x 65472 = x - x % 64 := by
  obtain ⟨n, rfl⟩ := Int.eq_ofNat_of_zero_le h1
  have e := and_mask n 6 10 (by show n < 65536; omega)
  rw [show (65472 : Int) = ((65472 : Nat) : Int) from rfl, u16_and_nat n 65472 (by omega) (by omega), show (65472 : Nat) = 2 ^ 6 * (2 ^ 10 - 1) from rfl, e]
  omega

theorem wide_byt {zs : List Int} (h : ∀ z ∈ zs, Byt z) : ∀ z ∈ wide zs, Byt z := by
  intro z hz
  unfold wide at hz
  split at hz
  · rcases List.mem_append.1 hz with hz | hz
    · simp only [List.mem_cons, List.not_mem_nil, or_false] at hz
      rcases hz with h | h | h | h | h | h | h | h | h | h | h | h <;> (subst h; exact ⟨by omega, by omega⟩)
    · exact h z hz
  · exact h z hz

theorem scope4_eq (lo x12 x13 : Int) (h12 : lo / 16777216 % 256 = x12) (h13 : lo / 65536 % 256 = x13) : scope4 lo = if (x12 == 127 || x12 == 169 && x13 == 254) = true then 2 else 14 := by
  unfold scope4 loop4 link4
  rw [h12, h13]
  cases x12 == 127 <;> simp

/-- The whole row is ::1. -/
theorem one_iff {zs : List Int} (h : ∀ z ∈ zs, Byt z) (hl : zs.length = 16) : startsB zs one16 128 = true ↔ zs = one16 := by
  have hs := startsB_iff (byt_getD h) one16_byt 16 0 (by omega)
  rw [hs]
  constructor
  · rintro ⟨h1, -⟩
    apply List.ext_getElem?
    intro i
    rcases Nat.lt_or_ge i 16 with hi | hi
    · have := h1 i hi
      rw [List.getD_eq_getElem?_getD, List.getD_eq_getElem?_getD, List.getElem?_eq_getElem (by omega), List.getElem?_eq_getElem (by simpa [one16] using hi)] at this
      rw [List.getElem?_eq_getElem (by omega), List.getElem?_eq_getElem (by simpa [one16] using hi)]
      exact congrArg some this
    · rw [List.getElem?_eq_none (by omega), List.getElem?_eq_none (by simpa [one16] using hi)]
  · rintro rfl
    exact ⟨fun j _ => rfl, rfl⟩

theorem scope_16 {zs : List Int} (h : ∀ z ∈ zs, Byt z) (hl : zs.length = 16) : scopeV (some true) (hiOf zs) (loOf zs) = scopeS zs := by
  have h4 := four_mapd h hl
  have h1 := one_iff h hl
  unfold hiOf loOf scopeV scopeS
  rw [if_pos hl, if_pos hl, h4]
  match zs, hl with
  | [x0, x1, x2, x3, x4, x5, x6, x7, x8, x9, x10, x11, x12, x13, x14, x15], _ =>
    have b0 := h x0 (by simp); have b1 := h x1 (by simp); have b2 := h x2 (by simp); have b3 := h x3 (by simp)
    have b4 := h x4 (by simp); have b5 := h x5 (by simp); have b6 := h x6 (by simp); have b7 := h x7 (by simp)
    have b8 := h x8 (by simp); have b9 := h x9 (by simp); have b10 := h x10 (by simp); have b11 := h x11 (by simp)
    have b12 := h x12 (by simp); have b13 := h x13 (by simp); have b14 := h x14 (by simp); have b15 := h x15 (by simp)
    have a192 := and192 x1 b1
    clear h h4
    unfold Byt at b0 b1 b2 b3 b4 b5 b6 b7 b8 b9 b10 b11 b12 b13 b14 b15
    simp only [List.getD_cons_zero, List.getD_cons_succ]
    generalize hb : startsB [x0, x1, x2, x3, x4, x5, x6, x7, x8, x9, x10, x11, x12, x13, x14, x15] one16 128 = one at *
    obtain ⟨hi, hhi⟩ : ∃ hi, hi = be8 x0 x1 x2 x3 x4 x5 x6 x7 := ⟨_, rfl⟩
    obtain ⟨lo, hlo⟩ : ∃ lo, lo = be8 x8 x9 x10 x11 x12 x13 x14 x15 := ⟨_, rfl⟩
    rw [← hhi, ← hlo]
    unfold be8 at hhi hlo
    have hin : in6B (some true) hi lo = mapd [x0, x1, x2, x3, x4, x5, x6, x7, x8, x9, x10, x11, x12, x13, x14, x15] := by
      rw [Bool.eq_iff_iff]
      unfold in6B mapd allZ
      simp only [Bool.and_eq_true, beq_iff_eq, List.take_succ_cons, List.take_zero, List.all_cons, List.all_nil, and_true, List.getD_cons_zero, List.getD_cons_succ, beq_self_eq_true, true_and]
      constructor
      · rintro ⟨q1, q2⟩; refine ⟨⟨⟨?_, ?_, ?_, ?_, ?_, ?_, ?_, ?_, ?_, ?_⟩, ?_⟩, ?_⟩ <;> omega
      · rintro ⟨⟨⟨q0, q1, q2, q3, q4, q5, q6, q7, q8, q9⟩, q10⟩, q11⟩; refine ⟨?_, ?_⟩ <;> omega
    rw [hin]
    have e12 : lo / 16777216 % 256 = x12 := by omega
    have e13 : lo / 65536 % 256 = x13 := by omega
    have e0 : hi / 72057594037927936 = x0 := by omega
    have e1 : hi / 281474976710656 % 256 = x1 := by omega
    have e16 : hi / 281474976710656 % 16 = x1 % 16 := by omega
    have e2 : hi / 281474976710656 = x0 * 256 + x1 := by omega
    rw [show (some true == some false) = false from rfl, Bool.false_or]
    unfold scopeW
    cases hm : mapd [x0, x1, x2, x3, x4, x5, x6, x7, x8, x9, x10, x11, x12, x13, x14, x15] with
    | true => rw [if_pos rfl, if_pos rfl]; exact scope4_eq lo x12 x13 e12 e13
    | false =>
      rw [if_neg (by decide), if_neg (by decide)]
      have hloop : loop6 hi lo = true ↔ one = true := by
        rw [h1]
        unfold loop6 one16
        simp only [Bool.and_eq_true, beq_iff_eq, List.cons.injEq, and_true]
        constructor
        · rintro ⟨q1, q2⟩; refine ⟨?_, ?_, ?_, ?_, ?_, ?_, ?_, ?_, ?_, ?_, ?_, ?_, ?_, ?_, ?_, ?_⟩ <;> omega
        · rintro ⟨r0, r1, r2, r3, r4, r5, r6, r7, r8, r9, r10, r11, r12, r13, r14, r15⟩; refine ⟨?_, ?_⟩ <;> omega
      have hlink : link6 hi = (x0 == 254 && bits .and .u8 x1 192 == 128) := by
        unfold link6
        rw [e2, and65472 _ (by omega) (by omega), a192, Bool.eq_iff_iff]
        simp only [Bool.and_eq_true, beq_iff_eq]
        constructor
        · intro q; refine ⟨?_, ?_⟩ <;> omega
        · rintro ⟨q, r⟩; omega
      have hmult : mult6 hi = (x0 == 255) := by unfold mult6; rw [e0]
      unfold scope6
      rw [hlink, hmult, e16, e0, e1]
      by_cases q255 : x0 = 255
      · have n1 : loop6 hi lo = false := by
          cases q : loop6 hi lo with
          | false => rfl
          | true => unfold loop6 at q; simp only [Bool.and_eq_true, beq_iff_eq] at q; omega
        rw [n1]
        simp [q255]
      · by_cases q254 : x0 = 254
        · have n1 : loop6 hi lo = false := by
            cases q : loop6 hi lo with
            | false => rfl
            | true => unfold loop6 at q; simp only [Bool.and_eq_true, beq_iff_eq] at q; omega
          have n2 : one = false := by
            cases q : one with
            | false => rfl
            | true => rw [n1] at hloop; exact absurd (hloop.2 q) (by decide)
          rw [n1, n2]
          simp [q254]
        · have e255 : (x0 == 255) = false := by simp [q255]
          have e254 : (x0 == 254) = false := by simp [q254]
          rw [e255, e254]
          cases q : loop6 hi lo with
          | true => rw [hloop.1 q]; simp
          | false =>
            have n2 : one = false := by
              cases q' : one with
              | false => rfl
              | true => rw [q] at hloop; exact absurd (hloop.2 q') (by decide)
            rw [n2]; simp

theorem scope_4 {zs : List Int} (h : ∀ z ∈ zs, Byt z) (hl : zs.length = 4) : scopeV (some false) (hiOf zs) (loOf zs) = scopeS (wide zs) := by
  have hf := four_mapd (wide_byt h) (wide_len (Or.inl hl))
  have hlo : loOf zs = lo4 (zs.getD 0 0) (zs.getD 1 0) (zs.getD 2 0) (zs.getD 3 0) := by unfold loOf; rw [if_neg (by omega), if_pos hl]
  unfold scopeV scopeS
  rw [hf, hlo]
  match zs, hl with
  | [x0, x1, x2, x3], _ =>
    have b0 := h x0 (by simp); have b1 := h x1 (by simp); have b2 := h x2 (by simp); have b3 := h x3 (by simp)
    unfold Byt at b0 b1 b2 b3
    have hm : mapd (wide [x0, x1, x2, x3]) = true := by simp [mapd, wide, allZ]
    rw [hm]
    have e12 : lo4 x0 x1 x2 x3 / 16777216 % 256 = x0 := by unfold lo4; omega
    have e13 : lo4 x0 x1 x2 x3 / 65536 % 256 = x1 := by unfold lo4; omega
    unfold scopeW
    rw [if_pos (by simp), if_pos rfl]
    simpa [wide] using scope4_eq _ x0 x1 e12 e13

/-- The scope by the halves is the scope by the bytes. -/
theorem scope_eq {zs : List Int} (h : ∀ z ∈ zs, Byt z) (hl : zs.length = 4 ∨ zs.length = 16) : scopeV (famOf zs) (hiOf zs) (loOf zs) = scopeS (wide zs) := by
  rcases hl with hl | hl
  · have : famOf zs = some false := by unfold famOf; rw [if_pos hl]
    rw [this]; exact scope_4 h hl
  · have : famOf zs = some true := by unfold famOf; rw [if_neg (by omega), if_pos hl]
    have hw : wide zs = zs := by unfold wide; rw [if_neg (by omega)]
    rw [this, hw]; exact scope_16 h hl
end Go.Proofs.YtbejikpopealdaaDoor
