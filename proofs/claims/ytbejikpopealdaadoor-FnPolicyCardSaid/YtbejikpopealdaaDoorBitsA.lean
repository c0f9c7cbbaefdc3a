/-
  Plain laws on Go's bit operations at one byte, as the walks spell them.
-/
import Derived.Test.YtbejikpopealdaaDoorBytes
import Derived.Test.YtbejikpopealdaaDoorPlainA
import Derived.Laws.BitsAllLaws
namespace Go.Proofs.YtbejikpopealdaaDoor

theorem nat_bit_eq (m n t : Nat) : ((m ^^^ n) / 2 ^ t) % 2 = 0 ↔ m / 2 ^ t % 2 = n / 2 ^ t % 2 := by
  have h1 := Nat.testBit_xor m n t
  rw [Nat.testBit_eq_decide_div_mod_eq, Nat.testBit_eq_decide_div_mod_eq, Nat.testBit_eq_decide_div_mod_eq] at h1
  have a := Nat.mod_two_eq_zero_or_one ((m ^^^ n) / 2 ^ t)
  have b := Nat.mod_two_eq_zero_or_one (m / 2 ^ t)
  have c := Nat.mod_two_eq_zero_or_one (n / 2 ^ t)
  rcases a with a | a <;> rcases b with b | b <;> rcases c with c | c <;> simp_all

/-- '(x ^ y) >> t & 1', the walk's own spelling. -/
theorem bitTest (x y : Int) (hx : Byt x) (hy : Byt y) (t : Nat) : (bits .and .u8 (bits .xor .u8 x y / 2 ^ t) 1 == 0) = decide (x / (2 ^ t : Nat) % 2 = y / (2 ^ t : Nat) % 2) := by
  obtain ⟨h1, h2⟩ := hx
  obtain ⟨h3, h4⟩ := hy
  obtain ⟨m, rfl⟩ := Int.eq_ofNat_of_zero_le h1
  obtain ⟨n, rfl⟩ := Int.eq_ofNat_of_zero_le h3
  have hm : m < 256 := by omega
  have hn : n < 256 := by omega
  have hlt : (m ^^^ n) < 256 := Nat.xor_lt_two_pow (n := 8) hm hn
  rw [u8_xor_nat m n hm hn]
  have e : (((m ^^^ n : Nat) : Int) / 2 ^ t) = (((m ^^^ n) / 2 ^ t : Nat) : Int) := by push_cast; rfl
  have hd : (m ^^^ n) / 2 ^ t < 256 := Nat.lt_of_le_of_lt (Nat.div_le_self _ _) hlt
  rw [e, show (1 : Int) = ((1 : Nat) : Int) from rfl, u8_and_nat _ 1 hd (by omega), Nat.and_one_is_mod]
  have hk := nat_bit_eq m n t
  have e2 : ((m : Int) / ((2 ^ t : Nat) : Int) % 2) = ((m / 2 ^ t % 2 : Nat) : Int) := by push_cast; rfl
  have e3 : ((n : Int) / ((2 ^ t : Nat) : Int) % 2) = ((n / 2 ^ t % 2 : Nat) : Int) := by push_cast; rfl
  rw [e2, e3, Bool.eq_iff_iff, beq_iff_eq, decide_eq_true_iff]
  omega
end Go.Proofs.YtbejikpopealdaaDoor
