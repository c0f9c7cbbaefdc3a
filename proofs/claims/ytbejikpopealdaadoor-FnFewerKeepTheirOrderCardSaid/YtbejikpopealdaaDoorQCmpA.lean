/-
  What compareByRFC6724 asks of its callees: To4 at an address, commonPrefixLen at a source and an address of IPv6; the two infos in their boxes.
-/
import Derived.Test.YtbejikpopealdaaDoorQScope
namespace Go.Proofs.YtbejikpopealdaaDoor
open Go.RowKit

/-- An address of IPv4, in four bytes or in sixteen. -/
def fourB (zs : List Int) : Bool := zs.length == 4 || zs.length == 16 && mapd zs
/-- The length in common, as rule 9 reckons it. -/
def cplK (k : Option Bool) (hi lo : Int) (zs : List Int) : Int := if k = some true then (cplN (bytes16 hi lo) zs : Int) else 0

theorem fourB_no {zs : List Int} (hl : zs.length = 4 ∨ zs.length = 16) (h : fourB zs = false) : zs.length = 16 ∧ mapd zs = false := by
  unfold fourB at h
  rcases hl with hl | hl
  · rw [hl] at h; simp at h
  · rw [hl] at h; exact ⟨hl, by simpa using h⟩
theorem fourB_yes {zs : List Int} (hl : zs.length = 4 ∨ zs.length = 16) (h : fourB zs = true) : zs.length = 4 ∨ zs.length = 16 ∧ mapd zs = true := by
  unfold fourB at h
  rcases hl with hl | hl
  · exact Or.inl hl
  · rw [hl] at h; exact Or.inr ⟨hl, by simpa using h⟩

theorem to4_yes (a : Option Addr) (zs : List Int) (c : Nat) (hl : zs.length = 4 ∨ zs.length = 16) (hc : zs.length ≤ c) (hf : fourB zs = true) (w : World) (h : HoldsB w a zs) :
    Calls Tryd.prog 47 #[.slice a zs.length c] w fun e w' => (∃ b off n c', e = .returned (.slice (some ⟨b, off, none⟩) n c')) ∧ w = w' := by
  rcases fourB_yes hl hf with h4 | ⟨h16, hm⟩
  · have T := to4_four a c w
    rw [← h4] at T
    rcases h.2 with rfl | ⟨b, off, rfl, _, _⟩
    · simp at h4
    · refine T.mono ?_
      rintro e w' ⟨rfl, rfl⟩
      exact ⟨⟨_, _, _, _, rfl⟩, rfl⟩
  · rcases h.2 with rfl | ⟨b, off, rfl, _, hcs⟩
    · simp at h16
    · have T := to4_16 b off c (by omega) zs h16 w hcs
      rw [hm, ← h16] at T
      refine T.mono ?_
      rintro e w' ⟨rfl, rfl⟩
      exact ⟨⟨_, _, _, _, rfl⟩, rfl⟩
theorem to4_nil (a : Option Addr) (zs : List Int) (c : Nat) (hl : zs.length = 4 ∨ zs.length = 16) (hc : zs.length ≤ c) (hf : fourB zs = false) (w : World) (h : HoldsB w a zs) :
    Calls Tryd.prog 47 #[.slice a zs.length c] w fun e w' => e = .returned (.slice none 0 0) ∧ w = w' := by
  obtain ⟨h16, hm⟩ := fourB_no hl hf
  rcases h.2 with rfl | ⟨b, off, rfl, _, hcs⟩
  · simp at h16
  · have T := to4_no b off c (by omega) zs h16 hm w hcs
    rw [← h16] at T
    exact T
theorem cpl_any (p4 p6 : Addr) (k : Option Bool) (hk : k.isSome = true) (hi lo : Int) (hi0 : 0 ≤ hi) (hi1 : hi < 18446744073709551616) (lo0 : 0 ≤ lo) (lo1 : lo < 18446744073709551616) (a : Option Addr) (zs : List Int) (c : Nat) (hl : zs.length = 4 ∨ zs.length = 16) (hc : zs.length ≤ c) (hf : fourB zs = false)
    (w : World) (N : Net p4 p6 w) (h : HoldsB w a zs) :
    Calls Tryd.prog 37 #[.agg #[.int .u64 hi, .int .u64 lo, .pointer (zp p4 p6 k)], .slice a zs.length c] w fun e w' => e = .returned (.int .i64 (cplK k hi lo zs)) ∧ Gr w w' := by
  obtain ⟨h16, hm⟩ := fourB_no hl hf
  obtain ⟨b, off, rfl⟩ : ∃ b off, a = some ⟨b, off, none⟩ := by
    rcases h.2 with rfl | ⟨b, off, rfl, _, _⟩
    · simp at h16
    · exact ⟨b, off, rfl⟩
  match k, hk with
  | some true, _ =>
    have T := cplLen_66 p4 p6 hi lo hi0 hi1 lo0 lo1 b off c (by omega) zs h16 hm w N h
    rw [← h16] at T
    exact T
  | some false, _ =>
    have T := cplLen_46 p4 p6 hi lo b off c (by omega) zs h16 hm w N h
    rw [← h16] at T
    exact T

theorem cplK_bd (k : Option Bool) (hi lo : Int) (zs : List Int) : 0 ≤ cplK k hi lo zs ∧ cplK k hi lo zs ≤ 64 := by
  unfold cplK
  have := (cplN_is (bytes16 hi lo) zs).1
  split <;> omega

/-- The eleven cells of an info. -/
def Box11 (w : World) (b : Nat) (ip zn : Value) (s p l hi lo : Int) (z : Value) (ss sp sl : Int) : Prop :=
  b < w.heap.size ∧ w.cell? ⟨b, 0, none⟩ = some ip ∧ w.cell? ⟨b, 1, none⟩ = some zn ∧ w.cell? ⟨b, 2, none⟩ = some (.int .u8 s) ∧ w.cell? ⟨b, 3, none⟩ = some (.int .u8 p) ∧ w.cell? ⟨b, 4, none⟩ = some (.int .u8 l) ∧
  w.cell? ⟨b, 5, none⟩ = some (.int .u64 hi) ∧ w.cell? ⟨b, 6, none⟩ = some (.int .u64 lo) ∧ w.cell? ⟨b, 7, none⟩ = some z ∧ w.cell? ⟨b, 8, none⟩ = some (.int .u8 ss) ∧ w.cell? ⟨b, 9, none⟩ = some (.int .u8 sp) ∧ w.cell? ⟨b, 10, none⟩ = some (.int .u8 sl)
theorem Box11.gr {w w' : World} {b : Nat} {ip zn z : Value} {s p l hi lo ss sp sl : Int} (h : Box11 w b ip zn s p l hi lo z ss sp sl) (g : Gr w w') : Box11 w' b ip zn s p l hi lo z ss sp sl := by
  obtain ⟨h, h0, h1, h2, h3, h4, h5, h6, h7, h8, h9, h10⟩ := h
  exact ⟨Nat.lt_of_lt_of_le h g.size, g.cell h h0, g.cell h h1, g.cell h h2, g.cell h h3, g.cell h h4, g.cell h h5, g.cell h h6, g.cell h h7, g.cell h h8, g.cell h h9, g.cell h h10⟩
/-- The three cells of a source. -/
def Box3 (w : World) (b : Nat) (hi lo : Int) (z : Value) : Prop :=
  b < w.heap.size ∧ w.cell? ⟨b, 0, none⟩ = some (.int .u64 hi) ∧ w.cell? ⟨b, 1, none⟩ = some (.int .u64 lo) ∧ w.cell? ⟨b, 2, none⟩ = some z
theorem Box3.gr {w w' : World} {b : Nat} {hi lo : Int} {z : Value} (h : Box3 w b hi lo z) (g : Gr w w') : Box3 w' b hi lo z := by
  obtain ⟨h, h0, h1, h2⟩ := h
  exact ⟨Nat.lt_of_lt_of_le h g.size, g.cell h h0, g.cell h h1, g.cell h h2⟩

/-- The rules, from the tests' answers: a reachable, b reachable; scope equal (a, b); label equal (a, b); precedence greater, less; scope less, greater; neither of IPv4; common bits greater, less. -/
def cmpV (va vb e1 e2 l1 l2 pg pl sl sg n4 cg cl : Bool) : Int :=
  if !va && !vb then 0 else if !vb then -1 else if !va then 1
  else if e1 && !e2 then -1 else if !e1 && e2 then 1
  else if l1 && !l2 then -1 else if !l1 && l2 then 1
  else if pg then -1 else if pl then 1
  else if sl then -1 else if sg then 1
  else if n4 && cg then -1 else if n4 && cl then 1 else 0
end Go.Proofs.YtbejikpopealdaaDoor
