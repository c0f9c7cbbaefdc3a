/-
  Plain law: which entry of the policy table holds an address, by its two halves.
-/
import Derived.Test.YtbejikpopealdaaDoorQPolicy
import Derived.Test.YtbejikpopealdaaDoorQSpecF
namespace Go.Proofs.YtbejikpopealdaaDoor

theorem nat_xor_zero {a b : Nat} : a ^^^ b = 0 ↔ a = b := by
  constructor
  · intro h
    apply Nat.eq_of_testBit_eq
    intro i
    have := congrArg (fun n => n.testBit i) h
    simp only [Nat.testBit_xor, Nat.zero_testBit] at this
    cases ha : a.testBit i <;> cases hb : b.testBit i <;> simp_all
  · rintro rfl
    exact Nat.xor_self a

theorem half_zero {a b k m : Nat} (ha : a < 2 ^ (k + m)) (hb : b < 2 ^ (k + m)) : (a ^^^ b) &&& (2 ^ k * (2 ^ m - 1)) = 0 ↔ a / 2 ^ k = b / 2 ^ k := by
  rw [and_mask _ k m (Nat.xor_lt_two_pow ha hb), Nat.mul_eq_zero, Nat.xor_div_two_pow, nat_xor_zero]
  constructor
  · rintro (h | h)
    · exact absurd h (by have := Nat.two_pow_pos k; omega)
    · exact h
  · exact Or.inr

/-- The halves against an entry's, each beyond the mask's zeros. -/
theorem contB_iff {hi lo phi plo : Nat} (h0 : hi < 18446744073709551616) (h1 : lo < 18446744073709551616) (h2 : phi < 18446744073709551616) (h3 : plo < 18446744073709551616) (k m l n : Nat) (hk : k + m = 64) (hl : l + n = 64)
    (ma mb : Int) (hma : ma = ((2 ^ k * (2 ^ m - 1) : Nat) : Int)) (hmb : mb = ((2 ^ l * (2 ^ n - 1) : Nat) : Int)) (b1 : 2 ^ k * (2 ^ m - 1) < 18446744073709551616) (b2 : 2 ^ l * (2 ^ n - 1) < 18446744073709551616) :
    contB hi lo phi plo ma mb = true ↔ hi / 2 ^ k = phi / 2 ^ k ∧ lo / 2 ^ l = plo / 2 ^ l := by
  subst hma hmb
  have x1 : hi ^^^ phi < 2 ^ 64 := Nat.xor_lt_two_pow h0 h2
  have x2 : lo ^^^ plo < 2 ^ 64 := Nat.xor_lt_two_pow h1 h3
  unfold contB
  rw [u64_xor_nat _ _ h0 h2, u64_xor_nat _ _ h1 h3, u64_and_nat _ _ x1 b1, u64_and_nat _ _ x2 b2,
    u64_or_nat _ _ (Nat.lt_of_le_of_lt Nat.and_le_left x1) (Nat.lt_of_le_of_lt Nat.and_le_left x2), beq_iff_eq]
  rw [show ((0 : Int) = ((0 : Nat) : Int)) from rfl, Int.ofNat_inj, Nat.or_eq_zero_iff]
  have e1 := half_zero (a := hi) (b := phi) (k := k) (m := m) (by rw [hk]; exact h0) (by rw [hk]; exact h2)
  have e2 := half_zero (a := lo) (b := plo) (k := l) (m := n) (by rw [hl]; exact h1) (by rw [hl]; exact h3)
  rw [e1, e2]

/-- Entry j holds the address, read off the halves. -/
def hitP (hi lo : Int) : Nat → Bool
  | 0 => decide (hi = 0 ∧ lo = 1)
  | 1 => decide (hi = 0 ∧ lo / 4294967296 = 65535)
  | 2 => decide (hi = 0 ∧ lo / 4294967296 = 0)
  | 3 => decide (hi / 4294967296 = 536936448)
  | 4 => decide (hi / 281474976710656 = 8194)
  | 5 => decide (hi / 281474976710656 = 16382)
  | 6 => decide (hi / 18014398509481984 = 1019)
  | 7 => decide (hi / 144115188075855872 = 126)
  | _ => true

theorem hit_eq {hi lo : Int} (h0 : 0 ≤ hi) (h1 : hi < 18446744073709551616) (h2 : 0 ≤ lo) (h3 : lo < 18446744073709551616) (j : Nat) (hj : j < 9) : hitB hi lo j = hitP hi lo j := by
  obtain ⟨a, rfl⟩ := Int.eq_ofNat_of_zero_le h0
  obtain ⟨b, rfl⟩ := Int.eq_ofNat_of_zero_le h2
  have ha : a < 18446744073709551616 := by omega
  have hb : b < 18446744073709551616 := by omega
  clear h0 h1 h2 h3
  rw [Bool.eq_iff_iff]
  match j, hj with
  | 0, _ =>
    refine (contB_iff (phi := 0) (plo := 1) ha hb (by omega) (by omega) 0 64 0 64 rfl rfl _ _ rfl rfl (by decide) (by decide)).trans ?_
    simp only [hitP, decide_eq_true_eq]
    simp only [Nat.pow_zero, Nat.div_one]
    omega
  | 1, _ =>
    refine (contB_iff (phi := 0) (plo := 281470681743360) ha hb (by omega) (by omega) 0 64 32 32 rfl rfl _ _ rfl rfl (by decide) (by decide)).trans ?_
    simp only [hitP, decide_eq_true_eq]
    simp only [Nat.pow_zero, Nat.div_one, show (2 : Nat) ^ 32 = 4294967296 from rfl]
    omega
  | 2, _ =>
    refine (contB_iff (phi := 0) (plo := 0) ha hb (by omega) (by omega) 0 64 32 32 rfl rfl _ _ rfl rfl (by decide) (by decide)).trans ?_
    simp only [hitP, decide_eq_true_eq]
    simp only [Nat.pow_zero, Nat.div_one, show (2 : Nat) ^ 32 = 4294967296 from rfl]
    omega
  | 3, _ =>
    refine (contB_iff (phi := 2306124484190404608) (plo := 0) ha hb (by omega) (by omega) 32 32 64 0 rfl rfl _ _ rfl rfl (by decide) (by decide)).trans ?_
    simp only [hitP, decide_eq_true_eq]
    simp only [show (2 : Nat) ^ 32 = 4294967296 from rfl, show (2 : Nat) ^ 64 = 18446744073709551616 from rfl]
    omega
  | 4, _ =>
    refine (contB_iff (phi := 2306405959167115264) (plo := 0) ha hb (by omega) (by omega) 48 16 64 0 rfl rfl _ _ rfl rfl (by decide) (by decide)).trans ?_
    simp only [hitP, decide_eq_true_eq]
    simp only [show (2 : Nat) ^ 48 = 281474976710656 from rfl, show (2 : Nat) ^ 64 = 18446744073709551616 from rfl]
    omega
  | 5, _ =>
    refine (contB_iff (phi := 4611123068473966592) (plo := 0) ha hb (by omega) (by omega) 48 16 64 0 rfl rfl _ _ rfl rfl (by decide) (by decide)).trans ?_
    simp only [hitP, decide_eq_true_eq]
    simp only [show (2 : Nat) ^ 48 = 281474976710656 from rfl, show (2 : Nat) ^ 64 = 18446744073709551616 from rfl]
    omega
  | 6, _ =>
    refine (contB_iff (phi := 18356672081162141696) (plo := 0) ha hb (by omega) (by omega) 54 10 64 0 rfl rfl _ _ rfl rfl (by decide) (by decide)).trans ?_
    simp only [hitP, decide_eq_true_eq]
    simp only [show (2 : Nat) ^ 54 = 18014398509481984 from rfl, show (2 : Nat) ^ 64 = 18446744073709551616 from rfl]
    omega
  | 7, _ =>
    refine (contB_iff (phi := 18158513697557839872) (plo := 0) ha hb (by omega) (by omega) 57 7 64 0 rfl rfl _ _ rfl rfl (by decide) (by decide)).trans ?_
    simp only [hitP, decide_eq_true_eq]
    simp only [show (2 : Nat) ^ 57 = 144115188075855872 from rfl, show (2 : Nat) ^ 64 = 18446744073709551616 from rfl]
    omega
  | 8, _ =>
    rw [hit_8]
    exact Iff.rfl
  | n + 9, h => omega

theorem Found.unique {hi lo p l p' l' : Int} (h : Found hi lo p l) (k : Found hi lo p' l') : p' = p ∧ l' = l := by
  obtain ⟨c, _, hh, hn, rfl, rfl⟩ := h
  obtain ⟨d, _, kh, kn, rfl, rfl⟩ := k
  have : c = d := by
    rcases Nat.lt_trichotomy c d with h | h | h
    · have := kn c h; rw [hh] at this; exact absurd this (by decide)
    · exact h
    · have := hn d h; rw [kh] at this; exact absurd this (by decide)
  subst this
  exact ⟨rfl, rfl⟩

/-- A mapped address of IPv4 has precedence 35. -/
theorem Found.four {lo p l : Int} (h : Found 0 lo p l) (h2 : lo / 4294967296 = 65535) : p = 35 := by
  have F : Found 0 lo 35 4 := by
    refine ⟨1, by decide, ?_, ?_, rfl, rfl⟩
    · rw [hit_eq (by omega) (by omega) (by omega) (by omega) 1 (by decide)]
      exact decide_eq_true ⟨rfl, h2⟩
    · intro j hj
      have : j = 0 := by omega
      subst this
      rw [hit_eq (by omega) (by omega) (by omega) (by omega) 0 (by decide)]
      exact decide_eq_false (by omega)
  exact (F.unique h).1

theorem list4 {zs : List Int} (hl : zs.length = 4) : ∃ a b c d, zs = [a, b, c, d] := by
  match zs, hl with
  | [a, b, c, d], _ => exact ⟨a, b, c, d, rfl⟩

/-- The halves of four bytes are the halves of their sixteen. -/
theorem halves_wide {zs : List Int} (h : ∀ z ∈ zs, Byt z) (hl : zs.length = 4) : hiOf (wide zs) = hiOf zs ∧ loOf (wide zs) = loOf zs ∧ hiOf zs = 0 ∧ loOf zs / 4294967296 = 65535 := by
  obtain ⟨a, b, c, d, rfl⟩ := list4 hl
  have ha : Byt a := h a (by simp)
  have hb : Byt b := h b (by simp)
  have hc : Byt c := h c (by simp)
  have hd : Byt d := h d (by simp)
  unfold Byt at ha hb hc hd
  have e : wide [a, b, c, d] = [0, 0, 0, 0, 0, 0, 0, 0, 0, 0, 255, 255, a, b, c, d] := rfl
  rw [e]
  have x1 : hiOf [0, 0, 0, 0, 0, 0, 0, 0, 0, 0, 255, 255, a, b, c, d] = be8 0 0 0 0 0 0 0 0 := rfl
  have x2 : loOf [0, 0, 0, 0, 0, 0, 0, 0, 0, 0, 255, 255, a, b, c, d] = be8 0 0 255 255 a b c d := rfl
  have x3 : hiOf [a, b, c, d] = 0 := rfl
  have x4 : loOf [a, b, c, d] = lo4 a b c d := rfl
  rw [x1, x2, x3, x4]
  unfold be8 lo4
  omega
end Go.Proofs.YtbejikpopealdaaDoor
/-
  Plain law: the entry that the package's table finds is the row that the reference finds.
-/
namespace Go.Proofs.YtbejikpopealdaaDoor

/-- Precedence and label, from the tests of the first eight entries. -/
def resOf (b0 b1 b2 b3 b4 b5 b6 b7 : Bool) : Int × Int :=
  if b0 then (50, 0) else if b1 then (35, 4) else if b2 then (1, 3) else if b3 then (5, 5) else if b4 then (30, 2) else if b5 then (1, 12) else if b6 then (1, 11) else if b7 then (3, 13) else (40, 1)

theorem found_res {hi lo p l : Int} (h0 : 0 ≤ hi) (h1 : hi < 18446744073709551616) (h2 : 0 ≤ lo) (h3 : lo < 18446744073709551616) (h : Found hi lo p l) :
    (p, l) = resOf (hitP hi lo 0) (hitP hi lo 1) (hitP hi lo 2) (hitP hi lo 3) (hitP hi lo 4) (hitP hi lo 5) (hitP hi lo 6) (hitP hi lo 7) := by
  obtain ⟨c, hc, hh, hn, rfl, rfl⟩ := h
  rw [hit_eq h0 h1 h2 h3 c hc] at hh
  have hn' : ∀ j, j < c → hitP hi lo j = false := fun j hj => by rw [← hit_eq h0 h1 h2 h3 j (by omega)]; exact hn j hj
  clear hn
  generalize hitP hi lo = q at *
  match c, hc with
  | 0, _ => rw [hh]; rfl
  | 1, _ => rw [hn' 0 (by decide), hh]; rfl
  | 2, _ => rw [hn' 0 (by decide), hn' 1 (by decide), hh]; rfl
  | 3, _ => rw [hn' 0 (by decide), hn' 1 (by decide), hn' 2 (by decide), hh]; rfl
  | 4, _ => rw [hn' 0 (by decide), hn' 1 (by decide), hn' 2 (by decide), hn' 3 (by decide), hh]; rfl
  | 5, _ => rw [hn' 0 (by decide), hn' 1 (by decide), hn' 2 (by decide), hn' 3 (by decide), hn' 4 (by decide), hh]; rfl
  | 6, _ => rw [hn' 0 (by decide), hn' 1 (by decide), hn' 2 (by decide), hn' 3 (by decide), hn' 4 (by decide), hn' 5 (by decide), hh]; rfl
  | 7, _ => rw [hn' 0 (by decide), hn' 1 (by decide), hn' 2 (by decide), hn' 3 (by decide), hn' 4 (by decide), hn' 5 (by decide), hn' 6 (by decide), hh]; rfl
  | 8, _ => rw [hn' 0 (by decide), hn' 1 (by decide), hn' 2 (by decide), hn' 3 (by decide), hn' 4 (by decide), hn' 5 (by decide), hn' 6 (by decide), hn' 7 (by decide)]; rfl
  | n + 9, h => omega

/-- The tests in the reference's order. -/
def qOf (b0 b1 b2 b3 b4 b5 b6 b7 : Bool) : Nat → Bool
  | 0 => b0
  | 1 => true
  | 2 => b1
  | 3 => b4
  | 4 => b3
  | 5 => b7
  | 6 => b2
  | 7 => b6
  | _ => b5

theorem pol_res : ∀ b0 b1 b2 b3 b4 b5 b6 b7 : Bool, (polAt (qOf b0 b1 b2 b3 b4 b5 b6 b7) 9).2 = resOf b0 b1 b2 b3 b4 b5 b6 b7 := by
  intro b0 b1 b2 b3 b4 b5 b6 b7
  cases b0 <;> cases b1 <;> cases b2 <;> cases b3 <;> cases b4 <;> cases b5 <;> cases b6 <;> cases b7 <;> rfl

theorem polAt_congr {q q' : Nat → Bool} (n : Nat) (h : ∀ j, j < n → q j = q' j) : polAt q n = polAt q' n := by
  induction n with
  | zero => rfl
  | succ n ih =>
    rw [polAt, polAt, ih (fun j hj => h j (by omega)), h n (by omega)]

theorem sRow_byt (j : Nat) : ∀ z ∈ sRow j, Byt z := by
  unfold sRow
  split <;> exact padL_byt (fun z hz => by unfold Byt; simp at hz; try omega)

theorem list16 {zs : List Int} (hl : zs.length = 16) : ∃ x0 x1 x2 x3 x4 x5 x6 x7 x8 x9 x10 x11 x12 x13 x14 x15, zs = [x0, x1, x2, x3, x4, x5, x6, x7, x8, x9, x10, x11, x12, x13, x14, x15] := by
  match zs, hl with
  | [x0, x1, x2, x3, x4, x5, x6, x7, x8, x9, x10, x11, x12, x13, x14, x15], _ => exact ⟨x0, x1, x2, x3, x4, x5, x6, x7, x8, x9, x10, x11, x12, x13, x14, x15, rfl⟩

set_option maxHeartbeats 2000000 in
theorem sHit_eq {ws : List Int} (h : ∀ z ∈ ws, Byt z) (hl : ws.length = 16) (j : Nat) (hj : j < 9) :
    sHit ws j = qOf (hitP (hiOf ws) (loOf ws) 0) (hitP (hiOf ws) (loOf ws) 1) (hitP (hiOf ws) (loOf ws) 2) (hitP (hiOf ws) (loOf ws) 3) (hitP (hiOf ws) (loOf ws) 4) (hitP (hiOf ws) (loOf ws) 5) (hitP (hiOf ws) (loOf ws) 6) (hitP (hiOf ws) (loOf ws) 7) j := by
  obtain ⟨x0, x1, x2, x3, x4, x5, x6, x7, x8, x9, x10, x11, x12, x13, x14, x15, rfl⟩ := list16 hl
  have hx := byt_getD h
  have hp := byt_getD (sRow_byt j)
  have B0 : Byt x0 := h x0 (by simp)
  have B1 : Byt x1 := h x1 (by simp)
  have B2 : Byt x2 := h x2 (by simp)
  have B3 : Byt x3 := h x3 (by simp)
  have B4 : Byt x4 := h x4 (by simp)
  have B5 : Byt x5 := h x5 (by simp)
  have B6 : Byt x6 := h x6 (by simp)
  have B7 : Byt x7 := h x7 (by simp)
  have B8 : Byt x8 := h x8 (by simp)
  have B9 : Byt x9 := h x9 (by simp)
  have B10 : Byt x10 := h x10 (by simp)
  have B11 : Byt x11 := h x11 (by simp)
  have B12 : Byt x12 := h x12 (by simp)
  have B13 : Byt x13 := h x13 (by simp)
  have B14 : Byt x14 := h x14 (by simp)
  have B15 : Byt x15 := h x15 (by simp)
  have e1 : hiOf [x0, x1, x2, x3, x4, x5, x6, x7, x8, x9, x10, x11, x12, x13, x14, x15] = be8 x0 x1 x2 x3 x4 x5 x6 x7 := rfl
  have e2 : loOf [x0, x1, x2, x3, x4, x5, x6, x7, x8, x9, x10, x11, x12, x13, x14, x15] = be8 x8 x9 x10 x11 x12 x13 x14 x15 := rfl
  rw [e1, e2]
  clear h hl e1 e2
  unfold Byt at B0 B1 B2 B3 B4 B5 B6 B7 B8 B9 B10 B11 B12 B13 B14 B15
  rw [Bool.eq_iff_iff]
  match j, hj with
  | 0, _ =>
    refine (startsB_iff hx hp 16 0 (by decide)).trans ?_
    rw [show sRow 0 = [0, 0, 0, 0, 0, 0, 0, 0, 0, 0, 0, 0, 0, 0, 0, 1] from rfl]
    simp only [qOf, hitP, decide_eq_true_eq]
    simp only [be8, Nat.forall_lt_succ_right, Nat.not_lt_zero, false_implies, implies_true, true_and, List.getD_cons_zero, List.getD_cons_succ, List.getD_nil, and_true, show (2 : Nat) ^ (8 - 0) = 256 from rfl]
    constructor
    · intro hh
      omega
    · intro hh
      omega
  | 1, _ =>
    refine (startsB_iff hx hp 0 0 (by decide)).trans ?_
    rw [show sRow 1 = [0, 0, 0, 0, 0, 0, 0, 0, 0, 0, 0, 0, 0, 0, 0, 0] from rfl]
    simp only [qOf, Nat.not_lt_zero, false_implies, implies_true, true_and, List.getD_cons_zero, show (2 : Nat) ^ (8 - 0) = 256 from rfl, iff_true]
    omega
  | 2, _ =>
    refine (startsB_iff hx hp 12 0 (by decide)).trans ?_
    rw [show sRow 2 = [0, 0, 0, 0, 0, 0, 0, 0, 0, 0, 255, 255, 0, 0, 0, 0] from rfl]
    simp only [qOf, hitP, decide_eq_true_eq]
    simp only [be8, Nat.forall_lt_succ_right, Nat.not_lt_zero, false_implies, implies_true, true_and, List.getD_cons_zero, List.getD_cons_succ, show (2 : Nat) ^ (8 - 0) = 256 from rfl]
    constructor
    · intro hh
      omega
    · intro hh
      omega
  | 3, _ =>
    refine (startsB_iff hx hp 2 0 (by decide)).trans ?_
    rw [show sRow 3 = [32, 2, 0, 0, 0, 0, 0, 0, 0, 0, 0, 0, 0, 0, 0, 0] from rfl]
    simp only [qOf, hitP, decide_eq_true_eq]
    simp only [be8, Nat.forall_lt_succ_right, Nat.not_lt_zero, false_implies, implies_true, true_and, List.getD_cons_zero, List.getD_cons_succ, show (2 : Nat) ^ (8 - 0) = 256 from rfl]
    constructor
    · intro hh
      omega
    · intro hh
      omega
  | 4, _ =>
    refine (startsB_iff hx hp 4 0 (by decide)).trans ?_
    rw [show sRow 4 = [32, 1, 0, 0, 0, 0, 0, 0, 0, 0, 0, 0, 0, 0, 0, 0] from rfl]
    simp only [qOf, hitP, decide_eq_true_eq]
    simp only [be8, Nat.forall_lt_succ_right, Nat.not_lt_zero, false_implies, implies_true, true_and, List.getD_cons_zero, List.getD_cons_succ, show (2 : Nat) ^ (8 - 0) = 256 from rfl]
    constructor
    · intro hh
      omega
    · intro hh
      omega
  | 5, _ =>
    refine (startsB_iff hx hp 0 7 (by decide)).trans ?_
    rw [show sRow 5 = [252, 0, 0, 0, 0, 0, 0, 0, 0, 0, 0, 0, 0, 0, 0, 0] from rfl]
    simp only [qOf, hitP, decide_eq_true_eq]
    simp only [be8, Nat.not_lt_zero, false_implies, implies_true, true_and, List.getD_cons_zero, show (2 : Nat) ^ (8 - 7) = 2 from rfl]
    constructor
    · intro hh
      omega
    · intro hh
      omega
  | 6, _ =>
    refine (startsB_iff hx hp 12 0 (by decide)).trans ?_
    rw [show sRow 6 = [0, 0, 0, 0, 0, 0, 0, 0, 0, 0, 0, 0, 0, 0, 0, 0] from rfl]
    simp only [qOf, hitP, decide_eq_true_eq]
    simp only [be8, Nat.forall_lt_succ_right, Nat.not_lt_zero, false_implies, implies_true, true_and, List.getD_cons_zero, List.getD_cons_succ, show (2 : Nat) ^ (8 - 0) = 256 from rfl]
    constructor
    · intro hh
      omega
    · intro hh
      omega
  | 7, _ =>
    refine (startsB_iff hx hp 1 2 (by decide)).trans ?_
    rw [show sRow 7 = [254, 192, 0, 0, 0, 0, 0, 0, 0, 0, 0, 0, 0, 0, 0, 0] from rfl]
    simp only [qOf, hitP, decide_eq_true_eq]
    simp only [be8, Nat.forall_lt_succ_right, Nat.not_lt_zero, false_implies, implies_true, true_and, List.getD_cons_zero, List.getD_cons_succ, show (2 : Nat) ^ (8 - 2) = 64 from rfl]
    constructor
    · intro hh
      omega
    · intro hh
      omega
  | 8, _ =>
    refine (startsB_iff hx hp 2 0 (by decide)).trans ?_
    rw [show sRow 8 = [63, 254, 0, 0, 0, 0, 0, 0, 0, 0, 0, 0, 0, 0, 0, 0] from rfl]
    simp only [qOf, hitP, decide_eq_true_eq]
    simp only [be8, Nat.forall_lt_succ_right, Nat.not_lt_zero, false_implies, implies_true, true_and, List.getD_cons_zero, List.getD_cons_succ, show (2 : Nat) ^ (8 - 0) = 256 from rfl]
    constructor
    · intro hh
      omega
    · intro hh
      omega
  | n + 9, h => omega

theorem wide_same {zs : List Int} (h : ∀ z ∈ zs, Byt z) (hl : zs.length = 4 ∨ zs.length = 16) : hiOf (wide zs) = hiOf zs ∧ loOf (wide zs) = loOf zs := by
  rcases hl with hl | hl
  · have := halves_wide h hl
    exact ⟨this.1, this.2.1⟩
  · have e : wide zs = zs := by unfold wide; rw [if_neg (by omega)]
    rw [e]
    exact ⟨rfl, rfl⟩

/-- The reference's answer is the package's. -/
theorem policy_eq {zs : List Int} (h : ∀ z ∈ zs, Byt z) (hl : zs.length = 4 ∨ zs.length = 16) {p l : Int} (hf : Found (hiOf zs) (loOf zs) p l) : (polAt (sHit (wide zs)) 9).2 = (p, l) := by
  obtain ⟨b1, b2, b3, b4⟩ := halves_bd h
  rw [found_res b1 b2 b3 b4 hf]
  obtain ⟨e1, e2⟩ := wide_same h hl
  have hq := sHit_eq (wide_byt h) (wide_len hl)
  rw [e1, e2] at hq
  rw [polAt_congr 9 hq]
  exact pol_res _ _ _ _ _ _ _ _
end Go.Proofs.YtbejikpopealdaaDoor
