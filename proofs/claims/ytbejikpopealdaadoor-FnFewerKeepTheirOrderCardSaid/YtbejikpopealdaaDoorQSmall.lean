/-
  The reference's prefer and one, and the laws' clear, walked.
-/
import Derived.Test.YtbejikpopealdaaDoorQScope
namespace Go.Proofs.YtbejikpopealdaaDoor
open Go.RowKit

/-- The sign of a preference. -/
def prefV (x y : Int) : Int := if y < x then -1 else if x < y then 1 else 0
def oneV (b : Bool) : Int := if b then 1 else 0

set_option maxHeartbeats 1000000 in
theorem prefer_any (x y : Int) (w : World) :
    Calls Tryd.prog 34 #[.int .i64 x, .int .i64 y] w fun e w' => e = .returned (.int .i64 (prefV x y)) ∧ w = w' := by
  obtain ⟨r, hr⟩ : ∃ r, r = prefV x y := ⟨_, rfl⟩
  rw [← hr]
  have HR := Lib.hid hr
  clear hr
  by_cases h1 : y < x
  · have e : Hid (r = -1) := by show _ = _; rw [HR.out, prefV, if_pos h1]
    clear HR
    go_enter Tryd.func34, Tryd.ntmps34
    go_wp2
    go_ret
    exact ⟨by rw [e.out]; rfl, rfl⟩
  · by_cases h2 : x < y
    · have e : Hid (r = 1) := by show _ = _; rw [HR.out, prefV, if_neg h1, if_pos h2]
      clear HR
      go_enter Tryd.func34, Tryd.ntmps34
      go_wp2
      go_ret
      exact ⟨by rw [e.out]; rfl, rfl⟩
    · have e : Hid (r = 0) := by show _ = _; rw [HR.out, prefV, if_neg h1, if_neg h2]
      clear HR
      go_enter Tryd.func34, Tryd.ntmps34
      go_wp2
      go_ret
      exact ⟨by rw [e.out]; rfl, rfl⟩

set_option maxHeartbeats 1000000 in
theorem one_any (b : Bool) (w : World) :
    Calls Tryd.prog 35 #[.bool b] w fun e w' => e = .returned (.int .i64 (oneV b)) ∧ w = w' := by
  cases b
  · go_enter Tryd.func35, Tryd.ntmps35
    go_wp2
    go_ret
    exact ⟨rfl, rfl⟩
  · go_enter Tryd.func35, Tryd.ntmps35
    go_wp2
    go_ret
    exact ⟨rfl, rfl⟩

/-- A destination whose source has its family, or that has none. -/
def clearB (zd zs : List Int) : Bool := isB zd && (zs.length == 0 || isB zs && (sixB zd == sixB zs))

set_option maxHeartbeats 1000000 in
set_option maxRecDepth 100000 in
theorem clear_any (a a' : Option Addr) (zd zs : List Int) (c c' : Nat) (w : World) (h : HoldsB w a zd) (h' : HoldsB w a' zs) :
    Calls Tryd.prog 23 #[.slice a zd.length c, .slice a' zs.length c'] w fun e w' => e = .returned (.bool (clearB zd zs)) ∧ Gr w w' := by
  have I1 : Hid (∀ W, Calls Tryd.prog 15 #[.slice a zd.length c] W fun e w' => e = .returned (.bool (isB zd)) ∧ W = w') := fun W => is_any a _ c W
  have I2 : Hid (∀ W, Calls Tryd.prog 15 #[.slice a' zs.length c'] W fun e w' => e = .returned (.bool (isB zs)) ∧ W = w') := fun W => is_any a' _ c' W
  have S1 := Lib.hid (fun W g => six_any a zd c W (h.gr (w' := W) g))
  have S2 := Lib.hid (fun W g => six_any a' zs c' W (h'.gr (w' := W) g))
  unfold clearB
  generalize isB zd = i1 at *
  generalize isB zs = i2 at *
  generalize sixB zd = s1 at *
  generalize sixB zs = s2 at *
  obtain ⟨n, hn⟩ : ∃ n, n = zd.length := ⟨_, rfl⟩
  obtain ⟨m, hm⟩ : ∃ m, m = zs.length := ⟨_, rfl⟩
  rw [← hn] at I1 S1 ⊢
  rw [← hm] at I2 S2 ⊢
  clear h h' hn hm
  cases i1
  · go_enter Tryd.func23, Tryd.ntmps23
    go_wp2_with fail
    refine (I1.out _).mono ?_
    rintro e w1 ⟨rfl, rfl⟩
    go_wp2_with fail
    go_ret
    exact ⟨rfl, Gr.refl _⟩
  · by_cases h0 : m = 0
    · subst h0
      go_enter Tryd.func23, Tryd.ntmps23
      go_wp2_with fail
      refine (I1.out _).mono ?_
      rintro e w1 ⟨rfl, rfl⟩
      go_wp2_with fail
      go_ret
      exact ⟨rfl, Gr.refl _⟩
    · have k0 : ((m : Int) == 0) = false := by rw [beq_eq_false_iff_ne]; omega
      have k1 : Hid ((m == 0) = false) := by show _ = _; rw [beq_eq_false_iff_ne]; omega
      clear h0
      cases i2
      · go_enter Tryd.func23, Tryd.ntmps23
        go_wp2_with fail
        refine (I1.out _).mono ?_
        rintro e w1 ⟨rfl, rfl⟩
        go_wp2_with fail
        refine (I2.out _).mono ?_
        rintro e w1 ⟨rfl, rfl⟩
        go_wp2_with fail
        go_ret
        exact ⟨by rw [k1.out]; rfl, Gr.refl _⟩
      · go_enter Tryd.func23, Tryd.ntmps23
        go_wp2_with fail
        refine (I1.out _).mono ?_
        rintro e w1 ⟨rfl, rfl⟩
        go_wp2_with fail
        refine (I2.out _).mono ?_
        rintro e w1 ⟨rfl, rfl⟩
        go_wp2_with fail
        refine (S1.out _ (Gr.refl _)).mono ?_
        rintro e w1 ⟨rfl, hg⟩
        have HG := Lib.hid hg
        clear hg
        go_wp2_with fail
        refine (S2.out _ HG.out).mono ?_
        rintro e w2 ⟨rfl, hg⟩
        have HG2 := Lib.hid (HG.out.trans hg)
        clear hg
        go_wp2_with fail
        go_ret
        exact ⟨by rw [k1.out]; rfl, HG2.out⟩
end Go.Proofs.YtbejikpopealdaaDoor
