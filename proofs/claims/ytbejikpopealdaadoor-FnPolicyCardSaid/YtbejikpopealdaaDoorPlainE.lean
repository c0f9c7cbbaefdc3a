/-
  Plain law: the entry that the package's table finds is the row that the reference finds.
-/
import Derived.Test.YtbejikpopealdaaDoorPlainD
import Derived.Test.YtbejikpopealdaaDoorSpecF
namespace Go.Proofs.YtbejikpopealdaaDoor

/-- Precedence and label, from the tests of the first eight entries. -/
def resOf (b0 b1 b2 b3 b4 b5 b6 b7 : Bool) : Int × Int :=
  if b0 then (50, 0) else if b1 then (35, 4) else if b2 then (1, 3) else if b3 then (5, 5) else if b4 then (30, 2) else if b5 then (1, 12) else if b6 then (1, 11) else if b7 then (3, 13) else (40, 1)

theorem found_res {hi lo p l : Int} (h0 : 0 ≤ hi) (h1 : hi < 18446744073709551616) (h2 : 0 ≤ lo) (h3 : lo < 18446744073709551616) (h : Found hi lo p l) :
    (p, l) = resOf (hitP hi lo 0) (hitP hi lo 1) (hitP hi lo 2) (hitP hi lo 3) (hitP hi lo 4) (hitP hi lo 5) (hitP hi lo 6) (hitP hi lo 7) := by
  obtain ⟨c, hc, hh, hn, rfl, rfl⟩ := h
  rw [hit_eq h0 h1 h2 h3 c hc] at hh
  have hn' : ∀ j, j < c → hitP hi lo j = false := fun j hj => by rw [← hit_eq h0 h1 h2 h3 j (by omega)]; exact hn j hj
  clear hn
  generalize hitP hi lo = q at *
  match c, hc with
  | 0, _ => rw [hh]; rfl
  | 1, _ => rw [hn' 0 (by decide), hh]; rfl
  | 2, _ => rw [hn' 0 (by decide), hn' 1 (by decide), hh]; rfl
  | 3, _ => rw [hn' 0 (by decide), hn' 1 (by decide), hn' 2 (by decide), hh]; rfl
  | 4, _ => rw [hn' 0 (by decide), hn' 1 (by decide), hn' 2 (by decide), hn' 3 (by decide), hh]; rfl
  | 5, _ => rw [hn' 0 (by decide), hn' 1 (by decide), hn' 2 (by decide), hn' 3 (by decide), hn' 4 (by decide), hh]; rfl
  | 6, _ => rw [hn' 0 (by decide), hn' 1 (by decide), hn' 2 (by decide), hn' 3 (by decide), hn' 4 (by decide), hn' 5 (by decide), hh]; rfl
  | 7, _ => rw [hn' 0 (by decide), hn' 1 (by decide), hn' 2 (by decide), hn' 3 (by decide), hn' 4 (by decide), hn' 5 (by decide), hn' 6 (by decide), hh]; rfl
  | 8, _ => rw [hn' 0 (by decide), hn' 1 (by decide), hn' 2 (by decide), hn' 3 (by decide), hn' 4 (by decide), hn' 5 (by decide), hn' 6 (by decide), hn' 7 (by decide)]; rfl
  | n + 9, h => omega

/-- The tests in the reference's order. -/
def qOf (b0 b1 b2 b3 b4 b5 b6 b7 : Bool) : Nat → Bool
  | 0 => b0
  | 1 => true
  | 2 => b1
  | 3 => b4
  | 4 => b3
  | 5 => b7
  | 6 => b2
  | 7 => b6
  | _ => b5

theorem pol_res : ∀ b0 b1 b2 b3 b4 b5 b6 b7 : Bool, (polAt (qOf b0 b1 b2 b3 b4 b5 b6 b7) 9).2 = resOf b0 b1 b2 b3 b4 b5 b6 b7 := by
  intro b0 b1 b2 b3 b4 b5 b6 b7
  cases b0 <;> cases b1 <;> cases b2 <;> cases b3 <;> cases b4 <;> cases b5 <;> cases b6 <;> cases b7 <;> rfl

theorem polAt_congr {q q' : Nat → Bool} (n : Nat) (h : ∀ j, j < n → q j = q' j) : polAt q n = polAt q' n := by
  induction n with
  | zero => rfl
  | succ n ih =>
    rw [polAt, polAt, ih (fun j hj => h j (by omega)), h n (by omega)]

theorem sRow_byt (j : Nat) : ∀ z ∈ sRow j, Byt z := by
  unfold sRow
  split <;> exact padL_byt (fun z hz => by unfold Byt; simp at hz; try omega)

theorem list16 {zs : List Int} (hl : zs.length = 16) : ∃ x0 x1 x2 x3 x4 x5 x6 x7 x8 x9 x10 x11 x12 x13 x14 x15, zs = [x0, x1, x2, x3, x4, x5, x6, x7, x8, x9, x10, x11, x12, x13, x14, x15] := by
  match zs, hl with
  | [x0, x1, x2, x3, x4, x5, x6, x7, x8, x9, x10, x11, x12, x13, x14, x15], _ => exact ⟨x0, x1, x2, x3, x4, x5, x6, x7, x8, x9, x10, x11, x12, x13, x14, x15, rfl⟩

set_option maxHeartbeats 2000000 in
theorem sHit_eq {ws : List Int} (h : ∀ z ∈ ws, Byt z) (hl : ws.length = 16) (j : Nat) (hj : j < 9) :
    sHit ws j = qOf (hitP (hiOf ws) (loOf ws) 0) (hitP (hiOf ws) (loOf ws) 1) (hitP (hiOf ws) (loOf ws) 2) (hitP (hiOf ws) (loOf ws) 3) (hitP (hiOf ws) (loOf ws) 4) (hitP (hiOf ws) (loOf ws) 5) (hitP (hiOf ws) (loOf ws) 6) (hitP (hiOf ws) (loOf ws) 7) j := by
  obtain ⟨x0, x1, x2, x3, x4, x5, x6, x7, x8, x9, x10, x11, x12, x13, x14, x15, rfl⟩ := list16 hl
  have hx := byt_getD h
  have hp := byt_getD (sRow_byt j)
  have B0 : Byt x0 := h x0 (by simp)
  have B1 : Byt x1 := h x1 (by simp)
  have B2 : Byt x2 := h x2 (by simp)
  have B3 : Byt x3 := h x3 (by simp)
  have B4 : Byt x4 := h x4 (by simp)
  have B5 : Byt x5 := h x5 (by simp)
  have B6 : Byt x6 := h x6 (by simp)
  have B7 : Byt x7 := h x7 (by simp)
  have B8 : Byt x8 := h x8 (by simp)
  have B9 : Byt x9 := h x9 (by simp)
  have B10 : Byt x10 := h x10 (by simp)
  have B11 : Byt x11 := h x11 (by simp)
  have B12 : Byt x12 := h x12 (by simp)
  have B13 : Byt x13 := h x13 (by simp)
  have B14 : Byt x14 := h x14 (by simp)
  have B15 : Byt x15 := h x15 (by simp)
  have e1 : hiOf [x0, x1, x2, x3, x4, x5, x6, x7, x8, x9, x10, x11, x12, x13, x14, x15] = be8 x0 x1 x2 x3 x4 x5 x6 x7 := rfl
  have e2 : loOf [x0, x1, x2, x3, x4, x5, x6, x7, x8, x9, x10, x11, x12, x13, x14, x15] = be8 x8 x9 x10 x11 x12 x13 x14 x15 := rfl
  rw [e1, e2]
  clear h hl e1 e2
  unfold Byt at B0 B1 B2 B3 B4 B5 B6 B7 B8 B9 B10 B11 B12 B13 B14 B15
  rw [Bool.eq_iff_iff]
  match j, hj with
  | 0, _ =>
    refine (startsB_iff hx hp 16 0 (by decide)).trans ?_
    rw [show sRow 0 = [0, 0, 0, 0, 0, 0, 0, 0, 0, 0, 0, 0, 0, 0, 0, 1] from rfl]
    simp only [qOf, hitP, decide_eq_true_eq]
    simp only [be8, Nat.forall_lt_succ_right, Nat.not_lt_zero, false_implies, implies_true, true_and, List.getD_cons_zero, List.getD_cons_succ, List.getD_nil, and_true, show (2 : Nat) ^ (8 - 0) = 256 from rfl]
    constructor
    · intro hh
      omega
    · intro hh
      omega
  | 1, _ =>
    refine (startsB_iff hx hp 0 0 (by decide)).trans ?_
    rw [show sRow 1 = [0, 0, 0, 0, 0, 0, 0, 0, 0, 0, 0, 0, 0, 0, 0, 0] from rfl]
    simp only [qOf, Nat.not_lt_zero, false_implies, implies_true, true_and, List.getD_cons_zero, show (2 : Nat) ^ (8 - 0) = 256 from rfl, iff_true]
    omega
  | 2, _ =>
    refine (startsB_iff hx hp 12 0 (by decide)).trans ?_
    rw [show sRow 2 = [0, 0, 0, 0, 0, 0, 0, 0, 0, 0, 255, 255, 0, 0, 0, 0] from rfl]
    simp only [qOf, hitP, decide_eq_true_eq]
    simp only [be8, Nat.forall_lt_succ_right, Nat.not_lt_zero, false_implies, implies_true, true_and, List.getD_cons_zero, List.getD_cons_succ, show (2 : Nat) ^ (8 - 0) = 256 from rfl]
    constructor
    · intro hh
      omega
    · intro hh
      omega
  | 3, _ =>
    refine (startsB_iff hx hp 2 0 (by decide)).trans ?_
    rw [show sRow 3 = [32, 2, 0, 0, 0, 0, 0, 0, 0, 0, 0, 0, 0, 0, 0, 0] from rfl]
    simp only [qOf, hitP, decide_eq_true_eq]
    simp only [be8, Nat.forall_lt_succ_right, Nat.not_lt_zero, false_implies, implies_true, true_and, List.getD_cons_zero, List.getD_cons_succ, show (2 : Nat) ^ (8 - 0) = 256 from rfl]
    constructor
    · intro hh
      omega
    · intro hh
      omega
  | 4, _ =>
    refine (startsB_iff hx hp 4 0 (by decide)).trans ?_
    rw [show sRow 4 = [32, 1, 0, 0, 0, 0, 0, 0, 0, 0, 0, 0, 0, 0, 0, 0] from rfl]
    simp only [qOf, hitP, decide_eq_true_eq]
    simp only [be8, Nat.forall_lt_succ_right, Nat.not_lt_zero, false_implies, implies_true, true_and, List.getD_cons_zero, List.getD_cons_succ, show (2 : Nat) ^ (8 - 0) = 256 from rfl]
    constructor
    · intro hh
      omega
    · intro hh
      omega
  | 5, _ =>
    refine (startsB_iff hx hp 0 7 (by decide)).trans ?_
    rw [show sRow 5 = [252, 0, 0, 0, 0, 0, 0, 0, 0, 0, 0, 0, 0, 0, 0, 0] from rfl]
    simp only [qOf, hitP, decide_eq_true_eq]
    simp only [be8, Nat.not_lt_zero, false_implies, implies_true, true_and, List.getD_cons_zero, show (2 : Nat) ^ (8 - 7) = 2 from rfl]
    constructor
    · intro hh
      omega
    · intro hh
      omega
  | 6, _ =>
    refine (startsB_iff hx hp 12 0 (by decide)).trans ?_
    rw [show sRow 6 = [0, 0, 0, 0, 0, 0, 0, 0, 0, 0, 0, 0, 0, 0, 0, 0] from rfl]
    simp only [qOf, hitP, decide_eq_true_eq]
    simp only [be8, Nat.forall_lt_succ_right, Nat.not_lt_zero, false_implies, implies_true, true_and, List.getD_cons_zero, List.getD_cons_succ, show (2 : Nat) ^ (8 - 0) = 256 from rfl]
    constructor
    · intro hh
      omega
    · intro hh
      omega
  | 7, _ =>
    refine (startsB_iff hx hp 1 2 (by decide)).trans ?_
    rw [show sRow 7 = [254, 192, 0, 0, 0, 0, 0, 0, 0, 0, 0, 0, 0, 0, 0, 0] from rfl]
    simp only [qOf, hitP, decide_eq_true_eq]
    simp only [be8, Nat.forall_lt_succ_right, Nat.not_lt_zero, false_implies, implies_true, true_and, List.getD_cons_zero, List.getD_cons_succ, show (2 : Nat) ^ (8 - 2) = 64 from rfl]
    constructor
    · intro hh
      omega
    · intro hh
      omega
  | 8, _ =>
    refine (startsB_iff hx hp 2 0 (by decide)).trans ?_
    rw [show sRow 8 = [63, 254, 0, 0, 0, 0, 0, 0, 0, 0, 0, 0, 0, 0, 0, 0] from rfl]
    simp only [qOf, hitP, decide_eq_true_eq]
    simp only [be8, Nat.forall_lt_succ_right, Nat.not_lt_zero, false_implies, implies_true, true_and, List.getD_cons_zero, List.getD_cons_succ, show (2 : Nat) ^ (8 - 0) = 256 from rfl]
    constructor
    · intro hh
      omega
    · intro hh
      omega
  | n + 9, h => omega

theorem wide_same {zs : List Int} (h : ∀ z ∈ zs, Byt z) (hl : zs.length = 4 ∨ zs.length = 16) : hiOf (wide zs) = hiOf zs ∧ loOf (wide zs) = loOf zs := by
  rcases hl with hl | hl
  · have := halves_wide h hl
    exact ⟨this.1, this.2.1⟩
  · have e : wide zs = zs := by unfold wide; rw [if_neg (by omega)]
    rw [e]
    exact ⟨rfl, rfl⟩

/-- The reference's answer is the package's. -/
theorem policy_eq {zs : List Int} (h : ∀ z ∈ zs, Byt z) (hl : zs.length = 4 ∨ zs.length = 16) {p l : Int} (hf : Found (hiOf zs) (loOf zs) p l) : (polAt (sHit (wide zs)) 9).2 = (p, l) := by
  obtain ⟨b1, b2, b3, b4⟩ := halves_bd h
  rw [found_res b1 b2 b3 b4 hf]
  obtain ⟨e1, e2⟩ := wide_same h hl
  have hq := sHit_eq (wide_byt h) (wide_len hl)
  rw [e1, e2] at hq
  rw [polAt_congr 9 hq]
  exact pol_res _ _ _ _ _ _ _ _
end Go.Proofs.YtbejikpopealdaaDoor
