/-
  The reference's Compare at two destinations whose sources have their families, or that have none: by the keys.
-/
import Derived.Test.YtbejikpopealdaaDoorQPlainI
import Derived.Test.YtbejikpopealdaaDoorQSmall
namespace Go.Proofs.YtbejikpopealdaaDoor
open Go.RowKit

theorem clearB_parts {z y : List Int} (h : clearB z y = true) : isB z = true ∧ (y.length = 0 ∨ isB y = true ∧ sixB z = sixB y) := by
  unfold clearB at h
  simp only [Bool.and_eq_true, Bool.or_eq_true, beq_iff_eq] at h
  exact h
theorem isB_zero {y : List Int} (h : y.length = 0) : isB y = false := by unfold isB; rw [h]; rfl
theorem isB_no {y : List Int} (h : isB y = false) : y.length ≠ 4 ∧ y.length ≠ 16 := by
  unfold isB at h
  simp at h
  exact h

theorem spec_cmp (aA aA' aB aB' : Option Addr) (zA yA zB yB : List Int) (cA cA' cB cB' : Nat) (CA : zA.length ≤ cA) (CA' : yA.length ≤ cA') (CB : zB.length ≤ cB) (CB' : yB.length ≤ cB')
    (lA : clearB zA yA = true) (lB : clearB zB yB = true) (w : World) (HA : HoldsB w aA zA) (HA' : HoldsB w aA' yA) (HB : HoldsB w aB zB) (HB' : HoldsB w aB' yB) :
    Calls Tryd.prog 26 #[.slice aA zA.length cA, .slice aA' yA.length cA', .slice aB zB.length cB, .slice aB' yB.length cB'] w fun e w' =>
      (∃ K : Int, e = .returned (.tuple #[.int .i64 (lexB (keyU zA yA) (keyU zB yB)), .int .i64 K])) ∧ Below w.heap.size w w' := by
  obtain ⟨a1, a2⟩ := clearB_parts lA
  obtain ⟨b1, b2⟩ := clearB_parts lB
  have LA := isB_len.1 a1
  have LB := isB_len.1 b1
  cases oA : isB yA with
  | true =>
    have MA := isB_len.1 oA
    have sA : sixB zA = sixB yA := by
      rcases a2 with h | h
      · omega
      · exact h.2
    cases oB : isB yB with
    | true =>
      have MB := isB_len.1 oB
      have sB : sixB zB = sixB yB := by
        rcases b2 with h | h
        · omega
        · exact h.2
      obtain ⟨R, K, hRK⟩ : ∃ R K, (R, K) = spcB zA yA zB yB := ⟨_, _, rfl⟩
      have e : R = lexB (keyU zA yA) (keyU zB yB) := by
        rw [lexU_yy oA oB, ← cmpB_key HA.1 HB.1 LA LB, cmp_is_spec HA.1 HA'.1 HB.1 HB'.1 LA MA LB MB sA sB, ← hRK]
      rw [← e]
      refine (specCompare_yes aA aA' aB aB' zA yA zB yB _ _ _ _ cA cA' cB cB' rfl rfl rfl rfl LA MA LB MB CA CA' CB CB' _ _ _ _ _ R K _ _ _ _ rfl rfl rfl rfl rfl rfl rfl rfl rfl ?_ w HA HA' HB HB').mono ?_
      · rw [hRK]; rfl
      · rintro e w' ⟨rfl, h⟩
        exact ⟨⟨K, rfl⟩, h⟩
    | false =>
      obtain ⟨k4, k16⟩ := isB_no oB
      rw [lexU_yn oA oB]
      refine (specCompare_yn aA aA' aB aB' yA _ _ _ cA cA' cB cB' k4 k16 MA CA' w HA').mono ?_
      rintro e w' ⟨rfl, h⟩
      exact ⟨⟨1, rfl⟩, h⟩
  | false =>
    obtain ⟨h4, h16⟩ := isB_no oA
    cases oB : isB yB with
    | true =>
      have MB := isB_len.1 oB
      rw [lexU_ny oA oB]
      refine (specCompare_ny aA aA' aB aB' yB _ _ _ cA cA' cB cB' h4 h16 MB CB' w HB').mono ?_
      rintro e w' ⟨rfl, h⟩
      exact ⟨⟨1, rfl⟩, h⟩
    | false =>
      obtain ⟨k4, k16⟩ := isB_no oB
      rw [lexU_nn oA oB]
      refine (specCompare_nn aA aA' aB aB' _ _ _ _ cA cA' cB cB' h4 h16 k4 k16 w).mono ?_
      rintro e w' ⟨rfl, rfl⟩
      exact ⟨⟨1, rfl⟩, Below.refl _ _⟩
end Go.Proofs.YtbejikpopealdaaDoor
