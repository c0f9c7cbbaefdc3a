/-
  Plain law: the package's comparison is the reference's, where each destination's source has its family.
-/
import Derived.Test.YtbejikpopealdaaDoorQCmpA
import Derived.Test.YtbejikpopealdaaDoorQSpecH
import Derived.Test.YtbejikpopealdaaDoorQPlainE
import Derived.Test.YtbejikpopealdaaDoorQStabC
namespace Go.Proofs.YtbejikpopealdaaDoor

def scB (z : List Int) : Int := scopeS (wide z)
def prB (z : List Int) : Int := (polAt (sHit (wide z)) 9).2.1
def lbB (z : List Int) : Int := (polAt (sHit (wide z)) 9).2.2
/-- The package's common bits of a source and a destination; the reference's. -/
def ckB (y z : List Int) : Int := cplK (famOf y) (hiOf y) (loOf y) z
def cmB (y z : List Int) : Int := if startsB (wide y) four16 96 then 0 else (cplN (wide y) (wide z) : Int)

/-- The package's answer. -/
def cmpB (zA yA zB yB : List Int) : Int :=
  cmpV true true (scB zA == scB yA) (scB zB == scB yB) (lbB yA == lbB zA) (lbB yB == lbB zB) (decide (prB zB < prB zA)) (decide (prB zA < prB zB)) (decide (scB zA < scB zB)) (decide (scB zB < scB zA))
    (!fourB zA && !fourB zB) (decide (ckB yB zB < ckB yA zA)) (decide (ckB yA zA < ckB yB zB))
/-- The reference's answer with its rule. -/
def spcB (zA yA zB yB : List Int) : Int × Int :=
  specV (prefV (oneV (scB zA == scB yA)) (oneV (scB zB == scB yB))) (prefV (oneV (lbB zA == lbB yA)) (oneV (lbB zB == lbB yB))) (prefV (prB zA) (prB zB)) (prefV (scB zB) (scB zA))
    (!startsB (wide zA) four16 96 && !startsB (wide zB) four16 96) (prefV (cmB yA zA) (cmB yB zB))

theorem starts_four {z : List Int} (h : ∀ x ∈ z, Byt x) (hl : z.length = 4 ∨ z.length = 16) : startsB (wide z) four16 96 = fourB z := by
  unfold fourB
  rcases hl with hl | hl
  · rw [four_mapd (wide_byt h) (wide_len (Or.inl hl)), hl]
    obtain ⟨a, b, c, d, rfl⟩ := list4 hl
    rfl
  · rw [wide_16eq hl, four_mapd h hl, hl]
    rfl

theorem cm_ck {y z : List Int} (hy : ∀ x ∈ y, Byt x) (ly : y.length = 4 ∨ y.length = 16) (hz : ∀ x ∈ z, Byt x) (lz : z.length = 4 ∨ z.length = 16) (hf : fourB z = false) (hs : sixB z = sixB y) : cmB y z = ckB y z := by
  obtain ⟨l16, _⟩ := fourB_no lz hf
  have h1 : sixB z = true := by
    unfold sixB
    have := starts_four hz lz
    rw [wide_16eq l16, hf] at this
    rw [l16, this]; rfl
  have h2 : sixB y = true := by rw [← hs]; exact h1
  have y16 : y.length = 16 := by
    rcases ly with h | h
    · unfold sixB at h2; rw [h] at h2; exact absurd h2 (by simp)
    · exact h
  have yf : startsB y four16 96 = false := by
    unfold sixB at h2; rw [y16] at h2; simpa using h2
  have fam : famOf y = some true := by
    unfold famOf
    rw [if_neg (by omega), if_pos y16]
  unfold cmB ckB cplK
  rw [wide_16eq y16, wide_16eq l16, yf, fam, if_pos (rfl : some true = some true), bytes16_halves hy y16]
  rfl

theorem pref_one (a b : Bool) : prefV (oneV a) (oneV b) = if a && !b then -1 else if !a && b then 1 else 0 := by
  cases a <;> cases b <;> rfl

theorem cmp_is_spec {zA yA zB yB : List Int} (hzA : ∀ x ∈ zA, Byt x) (hyA : ∀ x ∈ yA, Byt x) (hzB : ∀ x ∈ zB, Byt x) (hyB : ∀ x ∈ yB, Byt x) (lzA : zA.length = 4 ∨ zA.length = 16) (lyA : yA.length = 4 ∨ yA.length = 16) (lzB : zB.length = 4 ∨ zB.length = 16) (lyB : yB.length = 4 ∨ yB.length = 16)
    (sA : sixB zA = sixB yA) (sB : sixB zB = sixB yB) : cmpB zA yA zB yB = (spcB zA yA zB yB).1 := by
  unfold cmpB spcB
  rw [starts_four hzA lzA, starts_four hzB lzB, pref_one, pref_one]
  have e1 : (lbB yA == lbB zA) = (lbB zA == lbB yA) := by rw [Bool.eq_iff_iff, beq_iff_eq, beq_iff_eq]; exact eq_comm
  have e2 : (lbB yB == lbB zB) = (lbB zB == lbB yB) := by rw [Bool.eq_iff_iff, beq_iff_eq, beq_iff_eq]; exact eq_comm
  rw [e1, e2]
  have c1 : fourB zA = false → cmB yA zA = ckB yA zA := fun h => cm_ck hyA lyA hzA lzA h sA
  have c2 : fourB zB = false → cmB yB zB = ckB yB zB := fun h => cm_ck hyB lyB hzB lzB h sB
  generalize (scB zA == scB yA) = q1
  generalize (scB zB == scB yB) = q2
  generalize (lbB zA == lbB yA) = q3
  generalize (lbB zB == lbB yB) = q4
  generalize prB zA = pA
  generalize prB zB = pB
  generalize scB zA = a1
  generalize scB zB = a2
  have key : ∀ x y : Int, prefV x y = if decide (y < x) then -1 else if decide (x < y) then 1 else 0 := by
    intro x y
    unfold prefV
    simp
  rw [key pA pB, key a2 a1]
  cases f1 : fourB zA with
  | true =>
    cases q1 <;> cases q2 <;> cases q3 <;> cases q4 <;> cases decide (pB < pA) <;> cases decide (pA < pB) <;> cases decide (a1 < a2) <;> cases decide (a2 < a1) <;> rfl
  | false =>
    cases f2 : fourB zB with
    | true =>
      cases q1 <;> cases q2 <;> cases q3 <;> cases q4 <;> cases decide (pB < pA) <;> cases decide (pA < pB) <;> cases decide (a1 < a2) <;> cases decide (a2 < a1) <;> rfl
    | false =>
      rw [c1 f1, c2 f2, key]
      cases q1 <;> cases q2 <;> cases q3 <;> cases q4 <;> cases decide (pB < pA) <;> cases decide (pA < pB) <;> cases decide (a1 < a2) <;> cases decide (a2 < a1) <;> cases decide (ckB yB zB < ckB yA zA) <;> cases decide (ckB yA zA < ckB yB zB) <;> rfl
end Go.Proofs.YtbejikpopealdaaDoor
/-
  Plain law: the comparison is the order of five numbers, one after the other.
-/
namespace Go.Proofs.YtbejikpopealdaaDoor

/-- The first difference decides. -/
def lexB : List Int → List Int → Int
  | a :: l, b :: m => if a < b then -1 else if b < a then 1 else lexB l m
  | _, _ => 0
/-- A destination's numbers with its source's. -/
def keyB (z y : List Int) : List Int := [if scB z == scB y then 0 else 1, if lbB z == lbB y then 0 else 1, -prB z, scB z, if fourB z then 0 else -ckB y z]

theorem prB_res {z : List Int} (h : ∀ x ∈ z, Byt x) (hl : z.length = 4 ∨ z.length = 16) :
    ∃ b0 b1 b2 b3 b4 b5 b6 b7, prB z = (resOf b0 b1 b2 b3 b4 b5 b6 b7).1 ∧ fourB z = b1 ∧ (b0 && b1) = false := by
  have hq := sHit_eq (wide_byt h) (wide_len hl)
  have h2 := hq 2 (by decide)
  refine ⟨hitP (hiOf (wide z)) (loOf (wide z)) 0, hitP (hiOf (wide z)) (loOf (wide z)) 1, hitP (hiOf (wide z)) (loOf (wide z)) 2, hitP (hiOf (wide z)) (loOf (wide z)) 3, hitP (hiOf (wide z)) (loOf (wide z)) 4, hitP (hiOf (wide z)) (loOf (wide z)) 5, hitP (hiOf (wide z)) (loOf (wide z)) 6, hitP (hiOf (wide z)) (loOf (wide z)) 7, ?_, ?_, ?_⟩
  · unfold prB
    rw [polAt_congr 9 hq]
    exact congrArg Prod.fst (pol_res _ _ _ _ _ _ _ _)
  · rw [← starts_four h hl]
    exact h2
  · rw [Bool.and_eq_false_iff]
    simp only [hitP, decide_eq_false_iff_not]
    omega

theorem prB_four {z : List Int} (h : ∀ x ∈ z, Byt x) (hl : z.length = 4 ∨ z.length = 16) : fourB z = decide (prB z = 35) := by
  obtain ⟨b0, b1, b2, b3, b4, b5, b6, b7, h1, h2, h3⟩ := prB_res h hl
  rw [h1, h2]
  clear h1 h2
  cases b0 <;> cases b1 <;> cases b2 <;> cases b3 <;> cases b4 <;> cases b5 <;> cases b6 <;> cases b7 <;> first | rfl | exact absurd h3 (by decide)

theorem cmpB_key {zA yA zB yB : List Int} (hzA : ∀ x ∈ zA, Byt x) (hzB : ∀ x ∈ zB, Byt x) (lzA : zA.length = 4 ∨ zA.length = 16) (lzB : zB.length = 4 ∨ zB.length = 16) :
    cmpB zA yA zB yB = lexB (keyB zA yA) (keyB zB yB) := by
  have e1 : (lbB yA == lbB zA) = (lbB zA == lbB yA) := by rw [Bool.eq_iff_iff, beq_iff_eq, beq_iff_eq]; exact eq_comm
  have e2 : (lbB yB == lbB zB) = (lbB zB == lbB yB) := by rw [Bool.eq_iff_iff, beq_iff_eq, beq_iff_eq]; exact eq_comm
  unfold cmpB
  rw [e1, e2, prB_four hzA lzA, prB_four hzB lzB]
  unfold keyB
  rw [prB_four hzA lzA, prB_four hzB lzB]
  generalize (scB zA == scB yA) = q1
  generalize (scB zB == scB yB) = q2
  generalize (lbB zA == lbB yA) = q3
  generalize (lbB zB == lbB yB) = q4
  generalize prB zA = pA
  generalize prB zB = pB
  generalize scB zA = a1
  generalize scB zB = a2
  generalize ckB yA zA = c1
  generalize ckB yB zB = c2
  unfold cmpV
  simp only [lexB]
  by_cases p1 : pB < pA
  · cases q1 <;> cases q2 <;> cases q3 <;> cases q4 <;> simp [p1]
  · by_cases p2 : pA < pB
    · cases q1 <;> cases q2 <;> cases q3 <;> cases q4 <;> simp [p1, p2]
    · have : pA = pB := by omega
      subst this
      by_cases s1 : a1 < a2
      · cases q1 <;> cases q2 <;> cases q3 <;> cases q4 <;> simp [s1]
      · by_cases s2 : a2 < a1
        · cases q1 <;> cases q2 <;> cases q3 <;> cases q4 <;> simp [s1, s2]
        · by_cases f : pA = 35
          · cases q1 <;> cases q2 <;> cases q3 <;> cases q4 <;> simp [s1, s2, f]
          · cases q1 <;> cases q2 <;> cases q3 <;> cases q4 <;> simp [s1, s2, f]
end Go.Proofs.YtbejikpopealdaaDoor
/-
  Plain law: the comparison is a total preorder.
-/
namespace Go.Proofs.YtbejikpopealdaaDoor

theorem lexB_self (l : List Int) : lexB l l = 0 := by
  induction l with
  | nil => rfl
  | cons a l ih => simp only [lexB, Int.lt_irrefl, if_false, ih]
theorem lexB_anti : ∀ l m : List Int, lexB m l = -lexB l m
  | [], [] => rfl
  | [], _ :: _ => rfl
  | _ :: _, [] => rfl
  | a :: l, b :: m => by
    simp only [lexB]
    rw [lexB_anti l m]
    by_cases h1 : a < b
    · rw [if_pos h1, if_neg (by omega), if_pos h1]; rfl
    · by_cases h2 : b < a
      · rw [if_pos h2, if_neg h1, if_pos h2]
      · rw [if_neg h1, if_neg h2, if_neg h2, if_neg h1]
theorem lexB_bd : ∀ l m : List Int, -1 ≤ lexB l m ∧ lexB l m ≤ 1
  | [], [] => ⟨by decide, by decide⟩
  | [], _ :: _ => ⟨by simp [lexB], by simp [lexB]⟩
  | _ :: _, [] => ⟨by simp [lexB], by simp [lexB]⟩
  | a :: l, b :: m => by
    simp only [lexB]
    have := lexB_bd l m
    split
    · omega
    · split
      · omega
      · exact this
theorem lexB_trans : ∀ l m n : List Int, l.length = m.length → m.length = n.length → lexB l m ≤ 0 → lexB m n ≤ 0 → lexB l n ≤ 0
  | [], [], [], _, _, _, _ => by decide
  | a :: l, b :: m, c :: n, h1, h2, h3, h4 => by
    simp only [lexB] at h3 h4 ⊢
    have ih := lexB_trans l m n (by simpa using h1) (by simpa using h2)
    by_cases x1 : a < b
    · by_cases y1 : b < c
      · rw [if_pos (by omega)]; decide
      · rw [if_neg y1] at h4
        by_cases y2 : c < b
        · rw [if_pos y2] at h4; omega
        · rw [if_pos (by omega)]; decide
    · rw [if_neg x1] at h3
      by_cases x2 : b < a
      · rw [if_pos x2] at h3; omega
      · rw [if_neg x2] at h3
        by_cases y1 : b < c
        · rw [if_pos (by omega)]; decide
        · rw [if_neg y1] at h4
          by_cases y2 : c < b
          · rw [if_pos y2] at h4; omega
          · rw [if_neg y2] at h4
            rw [if_neg (by omega), if_neg (by omega)]
            exact ih h3 h4
end Go.Proofs.YtbejikpopealdaaDoor
/-
  Plain law: the destinations' keys with the unreachable ones; the comparison by index is a total preorder.
-/
namespace Go.Proofs.YtbejikpopealdaaDoor
open Go.RowKit

def sc0 (y : List Int) : Int := if isB y then scB y else 0
def pr0 (y : List Int) : Int := if isB y then prB y else 0
def lb0 (y : List Int) : Int := if isB y then lbB y else 0
/-- A destination's numbers: whether it has a source, first. -/
def keyU (z y : List Int) : List Int := if isB y then 0 :: keyB z y else [1, 0, 0, 0, 0, 0]

/-- A destination as the sort holds it: its address's place and capacity, its bytes, its source's bytes. -/
abbrev Dst := Option Addr × Nat × List Int × List Int
def infoV (p4 p6 : Addr) (zn : Value) (r : Dst) : List Value :=
  [.slice r.1 r.2.2.1.length r.2.1, zn, .int .u8 (scB r.2.2.1), .int .u8 (prB r.2.2.1), .int .u8 (lbB r.2.2.1), .int .u64 (hiOf r.2.2.2), .int .u64 (loOf r.2.2.2), .pointer (zp p4 p6 (famOf r.2.2.2)), .int .u8 (sc0 r.2.2.2), .int .u8 (pr0 r.2.2.2), .int .u8 (lb0 r.2.2.2)]
def zeroV : List Value := [.slice none 0 0, .string ⟨#[]⟩, .int .u8 0, .int .u8 0, .int .u8 0, .int .u64 0, .int .u64 0, .pointer none, .int .u8 0, .int .u8 0, .int .u8 0]
/-- The cells of the x-th destination. -/
def encS (p4 p6 : Addr) (zn : Nat → Value) (I : List Dst) (x : Nat) : List Value :=
  match I[x]? with
  | some r => infoV p4 p6 (zn x) r
  | none => zeroV
def keyI (I : List Dst) (x : Nat) : List Int :=
  match I[x]? with
  | some r => keyU r.2.2.1 r.2.2.2
  | none => [1, 0, 0, 0, 0, 0]
/-- The comparison of two indices. -/
def cfI (I : List Dst) (x y : Nat) : Int := lexB (keyI I x) (keyI I y)

theorem keyU_len (z y : List Int) : (keyU z y).length = 6 := by
  unfold keyU
  split <;> rfl
theorem keyI_len (I : List Dst) (x : Nat) : (keyI I x).length = 6 := by
  unfold keyI
  split
  · exact keyU_len _ _
  · rfl
theorem cfI_pre (I : List Dst) : Pre (cfI I) :=
  ⟨fun x y => by unfold cfI; rw [lexB_anti (keyI I x) (keyI I y)]; omega, fun x y z h k => lexB_trans _ _ _ (by rw [keyI_len, keyI_len]) (by rw [keyI_len, keyI_len]) h k⟩
theorem encS_len (p4 p6 : Addr) (zn : Nat → Value) (I : List Dst) (x : Nat) : (encS p4 p6 zn I x).length = 11 := by
  unfold encS
  split <;> rfl

/-- Whether a destination has a source. -/
theorem keyU_yes {z y : List Int} (h : isB y = true) : keyU z y = 0 :: keyB z y := by unfold keyU; rw [if_pos h]
theorem keyU_no {z y : List Int} (h : isB y = false) : keyU z y = [1, 0, 0, 0, 0, 0] := by unfold keyU; rw [if_neg (by rw [h]; decide)]
theorem lexU_yy {z y z' y' : List Int} (h : isB y = true) (h' : isB y' = true) : lexB (keyU z y) (keyU z' y') = lexB (keyB z y) (keyB z' y') := by
  rw [keyU_yes h, keyU_yes h']
  show (if (0 : Int) < 0 then _ else if (0 : Int) < 0 then _ else _) = _
  rw [if_neg (by decide), if_neg (by decide)]
theorem lexU_yn {z y z' y' : List Int} (h : isB y = true) (h' : isB y' = false) : lexB (keyU z y) (keyU z' y') = -1 := by
  rw [keyU_yes h, keyU_no h']; rfl
theorem lexU_ny {z y z' y' : List Int} (h : isB y = false) (h' : isB y' = true) : lexB (keyU z y) (keyU z' y') = 1 := by
  rw [keyU_no h, keyU_yes h']; rfl
theorem lexU_nn {z y z' y' : List Int} (h : isB y = false) (h' : isB y' = false) : lexB (keyU z y) (keyU z' y') = 0 := by
  rw [keyU_no h, keyU_no h']; rfl

theorem isB_len {z : List Int} : isB z = true ↔ z.length = 4 ∨ z.length = 16 := by
  unfold isB
  simp
theorem fam_is (y : List Int) : (famOf y).isSome = isB y := by
  unfold famOf isB
  by_cases h4 : y.length = 4
  · rw [if_pos h4, h4]; rfl
  · rw [if_neg h4]
    by_cases h16 : y.length = 16
    · rw [if_pos h16, h16]; rfl
    · rw [if_neg h16]
      have a : (y.length == 4) = false := by rw [beq_eq_false_iff_ne]; exact h4
      have b : (y.length == 16) = false := by rw [beq_eq_false_iff_ne]; exact h16
      rw [a, b]; rfl
end Go.Proofs.YtbejikpopealdaaDoor
