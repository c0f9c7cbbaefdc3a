/-
  Plain law, no program in sight: how many of the first 64 bits two rows of bytes have in common, bit by bit and byte by byte.
-/
import Derived.Test.YtbejikpopealdaaDoorQBytes
import Derived.Laws.BitsAllLaws
namespace Go.Proofs.YtbejikpopealdaaDoor

/-- Bit n of a row of bytes, the greatest bit of the first byte first. -/
def bitAt (zs : List Int) (n : Nat) : Int := zs.getD (n / 8) 0 / (2 ^ (7 - n % 8) : Nat) % 2

/-- n is the number of bits in common, of the first 64. -/
def IsCpl (a b : List Int) (n : Nat) : Prop := n ≤ 64 ∧ (∀ i, i < n → bitAt a i = bitAt b i) ∧ (n < 64 → bitAt a n ≠ bitAt b n)

def cplGo (a b : List Int) : Nat → Nat → Nat
  | 0, n => n
  | f + 1, n => if bitAt a n = bitAt b n then cplGo a b f (n + 1) else n
def cplN (a b : List Int) : Nat := cplGo a b 64 0

theorem IsCpl.unique {a b : List Int} {n m : Nat} (h : IsCpl a b n) (k : IsCpl a b m) : n = m := by
  obtain ⟨h1, h2, h3⟩ := h
  obtain ⟨k1, k2, k3⟩ := k
  rcases Nat.lt_trichotomy n m with h | h | h
  · exact absurd (k2 n h) (h3 (by omega))
  · exact h
  · exact absurd (h2 m h) (k3 (by omega))

theorem cplGo_is (a b : List Int) : ∀ (f n : Nat), n + f = 64 → (∀ i, i < n → bitAt a i = bitAt b i) → IsCpl a b (cplGo a b f n)
  | 0, n, hf, h => ⟨by simp only [cplGo]; omega, h, fun hn => by simp only [cplGo] at hn; omega⟩
  | f + 1, n, hf, h => by
    unfold cplGo
    by_cases he : bitAt a n = bitAt b n
    · rw [if_pos he]
      refine cplGo_is a b f (n + 1) (by omega) fun i hi => ?_
      rcases Nat.lt_or_ge i n with h' | h'
      · exact h i h'
      · have : i = n := by omega
        subst this; exact he
    · rw [if_neg he]
      exact ⟨by omega, h, fun _ => he⟩

theorem cplN_is (a b : List Int) : IsCpl a b (cplN a b) := cplGo_is a b 64 0 rfl (fun i hi => by omega)
theorem IsCpl.eq {a b : List Int} {n : Nat} (h : IsCpl a b n) : n = cplN a b := h.unique (cplN_is a b)

/-- The bits of byte j. -/
theorem bitAt_byte (zs : List Int) (j i : Nat) (hi : i < 8) : bitAt zs (8 * j + i) = zs.getD j 0 / (2 ^ (7 - i) : Nat) % 2 := by
  unfold bitAt
  rw [show (8 * j + i) / 8 = j by omega, show (8 * j + i) % 8 = i by omega]

/-- Bytes alike before j, and byte j parts behind 8 - t bits. -/
theorem cpl_at (a b : List Int) (j t : Nat) (hj : j < 8) (ht : t < 8) (hb : ∀ i, i < j → a.getD i 0 = b.getD i 0)
    (he : a.getD j 0 / (2 ^ (t + 1) : Nat) = b.getD j 0 / (2 ^ (t + 1) : Nat)) (hn : a.getD j 0 / (2 ^ t : Nat) ≠ b.getD j 0 / (2 ^ t : Nat)) : 8 * j + (7 - t) = cplN a b := by
  refine IsCpl.eq ⟨by omega, fun i hi => ?_, fun _ => ?_⟩
  · by_cases h : i < 8 * j
    · have h1 : i = 8 * (i / 8) + i % 8 := by omega
      rw [h1, bitAt_byte a _ _ (by omega), bitAt_byte b _ _ (by omega), hb _ (by omega)]
    · obtain ⟨r, rfl⟩ : ∃ r, i = 8 * j + r := ⟨i - 8 * j, by omega⟩
      rw [bitAt_byte a _ _ (by omega), bitAt_byte b _ _ (by omega)]
      obtain ⟨q, hq⟩ : ∃ q, 7 - r = (t + 1) + q := ⟨7 - r - (t + 1), by omega⟩
      rw [hq, Nat.pow_add, Int.natCast_mul, ← Int.ediv_ediv_of_nonneg (Int.natCast_nonneg _), ← Int.ediv_ediv_of_nonneg (Int.natCast_nonneg _), he]
  · rw [bitAt_byte a _ _ (by omega), bitAt_byte b _ _ (by omega), show 7 - (7 - t) = t by omega]
    rw [Nat.pow_succ, Int.natCast_mul, ← Int.ediv_ediv_of_nonneg (Int.natCast_nonneg _), ← Int.ediv_ediv_of_nonneg (Int.natCast_nonneg _)] at he
    intro h
    have e2 : ((2 : Nat) : Int) = 2 := rfl
    rw [e2] at he
    omega

/-- All eight bytes alike. -/
theorem cpl_all (a b : List Int) (hb : ∀ i, i < 8 → a.getD i 0 = b.getD i 0) : 64 = cplN a b := by
  refine IsCpl.eq ⟨by omega, fun i hi => ?_, fun h => by omega⟩
  have h1 : i = 8 * (i / 8) + i % 8 := by omega
  rw [h1, bitAt_byte a _ _ (by omega), bitAt_byte b _ _ (by omega), hb _ (by omega)]
end Go.Proofs.YtbejikpopealdaaDoor
/-
  Plain laws on Go's bit operations at one byte, as the walks spell them.
-/
namespace Go.Proofs.YtbejikpopealdaaDoor

theorem nat_bit_eq (m n t : Nat) : ((m ^^^ n) / 2 ^ t) % 2 = 0 ↔ m / 2 ^ t % 2 = n / 2 ^ t % 2 := by
  have h1 := Nat.testBit_xor m n t
  rw [Nat.testBit_eq_decide_div_mod_eq, Nat.testBit_eq_decide_div_mod_eq, Nat.testBit_eq_decide_div_mod_eq] at h1
  have a := Nat.mod_two_eq_zero_or_one ((m ^^^ n) / 2 ^ t)
  have b := Nat.mod_two_eq_zero_or_one (m / 2 ^ t)
  have c := Nat.mod_two_eq_zero_or_one (n / 2 ^ t)
  rcases a with a | a <;> rcases b with b | b <;> rcases c with c | c <;> simp_all

/-- '(x ^ y) >> t & 1', the walk's own spelling. -/
theorem bitTest (x y : Int) (hx : Byt x) (hy : Byt y) (t : Nat) : (bits .and .u8 (bits .xor .u8 x y / 2 ^ t) 1 == 0) = decide (x / (2 ^ t : Nat) % 2 = y / (2 ^ t : Nat) % 2) := by
  obtain ⟨h1, h2⟩ := hx
  obtain ⟨h3, h4⟩ := hy
  obtain ⟨m, rfl⟩ := Int.eq_ofNat_of_zero_le h1
  obtain ⟨n, rfl⟩ := Int.eq_ofNat_of_zero_le h3
  have hm : m < 256 := by omega
  have hn : n < 256 := by omega
  have hlt : (m ^^^ n) < 256 := Nat.xor_lt_two_pow (n := 8) hm hn
  rw [u8_xor_nat m n hm hn]
  have e : (((m ^^^ n : Nat) : Int) / 2 ^ t) = (((m ^^^ n) / 2 ^ t : Nat) : Int) := by push_cast; rfl
  have hd : (m ^^^ n) / 2 ^ t < 256 := Nat.lt_of_le_of_lt (Nat.div_le_self _ _) hlt
  rw [e, show (1 : Int) = ((1 : Nat) : Int) from rfl, u8_and_nat _ 1 hd (by omega), Nat.and_one_is_mod]
  have hk := nat_bit_eq m n t
  have e2 : ((m : Int) / ((2 ^ t : Nat) : Int) % 2) = ((m / 2 ^ t % 2 : Nat) : Int) := by push_cast; rfl
  have e3 : ((n : Int) / ((2 ^ t : Nat) : Int) % 2) = ((n / 2 ^ t % 2 : Nat) : Int) := by push_cast; rfl
  rw [e2, e3, Bool.eq_iff_iff, beq_iff_eq, decide_eq_true_iff]
  omega
end Go.Proofs.YtbejikpopealdaaDoor
