/-
  laws.FnOrder, walked: whatever the two arguments, the call returns true and nothing that was there has turned.
-/
import Derived.Test.YtbejikpopealdaaDoorQSpecJ
namespace Go.Proofs.YtbejikpopealdaaDoor
open Go.RowKit Go.Sort

set_option maxHeartbeats 8000000 in
set_option maxRecDepth 1000000 in
theorem ord_main (p4 p6 : Addr) (a a' : Option Addr) (rA rS : List (Option Addr × List Int × Nat)) (c c' n : Nat) (hA : rA.length = n) (hS : rS.length = n) (hn1 : n ≤ 1000) (w : World) (E : EnvO p4 p6 w) (HA : HoldsBB w a rA) (HS : HoldsBB w a' rS) (F1 : fitsB rA = true) (F2 : fitsB rS = true) :
    Calls Tryd.prog 9 #[.slice a n c, .slice a' n c'] w fun e w' => e = .returned (.bool true) ∧ Below w.heap.size w w' := by
  have Z1 := zzFits_any a rA c w HA (by unfold maxLen; omega)
  have Z2 := zzFits_any a' rS c' w HS (by unfold maxLen; omega)
  rw [F1, hA] at Z1
  rw [F2, hS] at Z2
  have ZF1 := Lib.hid Z1
  have ZF2 := Lib.hid Z2
  have HHA := Lib.hid HA
  have HHS := Lib.hid HS
  have EE := Lib.hid E
  have HLA := Lib.hid hA
  have HLS := Lib.hid hS
  have nn : ((n : Int) != (n : Int)) = false := by simp
  have n1000 : ¬ (1000 : Int) < (n : Int) := by omega
  have hm := mixedT
  have OK0 : Hid ((∀ (k : Nat) (r r' : Option Addr × List Int × Nat), k < 0 → rA[k]? = some r → rS[k]? = some r' → clearB r.2.1 r'.2.1 = true) ∧ Gr w w) := ⟨fun k r r' hk => absurd hk (Nat.not_lt_zero _), Gr.refl _⟩
  clear Z1 Z2 HA HS E hA hS F1 F2
  go_enter Tryd.func9, Tryd.ntmps9
  go_wp2_with (first | (go_at_call 21; ((with_reducible refine ZF1.out.mono ?_); rintro e w1 ⟨rfl, rfl⟩)) | (go_at_call 21; ((with_reducible refine ZF2.out.mono ?_); rintro e w1 ⟨rfl, rfl⟩)))
  obtain ⟨wo, hwo⟩ : ∃ wo : World, wo = w := ⟨_, rfl⟩
  go_loopg [26] n (fun kx s26 wr => ∃ (i : Nat), s26 = .int .i64 i ∧ i ≤ n ∧ n - i ≤ kx ∧ Hid ((∀ (k : Nat) (r r' : Option Addr × List Int × Nat), k < i → rA[k]? = some r → rS[k]? = some r' → clearB r.2.1 r'.2.1 = true) ∧ Gr w wr))
  case atStart => exact ⟨0, by go_num, Nat.zero_le _, by omega, OK0⟩
  case round =>
    clear OK0
    obtain ⟨i, rfl, hin, hkx, HOK⟩ := hrel
    by_cases hi : i < n
    · have hiz : (i : Int) < (n : Int) := by omega
      have hiz0 : (0 : Int) ≤ (i : Int) := by omega
      obtain ⟨r, hr⟩ : ∃ r, rA[i]? = some r := ⟨rA[i]'(by have := HLA.out; omega), List.getElem?_eq_getElem _⟩
      obtain ⟨r', hr'⟩ : ∃ r, rS[i]? = some r := ⟨rS[i]'(by have := HLS.out; omega), List.getElem?_eq_getElem _⟩
      have hg := HOK.out.2
      have HA2 := HHA.out.below hg.below
      have HS2 := HHS.out.below hg.below
      obtain ⟨b, off, rfl, c0, m0⟩ := bb_cell HA2 hr
      obtain ⟨b', off', rfl, c1, m1⟩ := bb_cell HS2 hr'
      have lb : b < wr.heap.size := World.block_lt_of_cell? _ _ c0
      have lb' : b' < wr.heap.size := World.block_lt_of_cell? _ _ c1
      have d0 := fun n os => cell_grown (w := wr) (n := n) (os := os) (a := ⟨b, off + i, none⟩) lb c0
      have d1 := fun n os => cell_grown (w := wr) (n := n) (os := os) (a := ⟨b', off' + i, none⟩) lb' c1
      have hz := (HA2.1 r (List.mem_of_getElem? hr)).2.2
      have hy := (HS2.1 r' (List.mem_of_getElem? hr')).2.2
      have CL := Lib.hid (fun W (g : Gr wr W) => clear_any r.1 r'.1 r.2.1 r'.2.1 r.2.2 r'.2.2 W (hz.gr g) (hy.gr g))
      have NXT : Hid (clearB r.2.1 r'.2.1 = true → ∀ (k : Nat) (q q' : Option Addr × List Int × Nat), k < i + 1 → rA[k]? = some q → rS[k]? = some q' → clearB q.2.1 q'.2.1 = true) := by
        intro ho k q q' hk h1 h2
        by_cases e : k = i
        · subst e
          rw [hr] at h1; rw [hr'] at h2
          cases h1; cases h2; exact ho
        · exact HOK.out.1 k q q' (by omega) h1 h2
      have HGW := Lib.hid hg
      clear hr hr' hz hy hg HA2 HS2
      generalize clearB r.2.1 r'.2.1 = cl at *
      generalize r.2.1.length = zl at *
      generalize r'.2.1.length = yl at *
      generalize r.1 = ra at *
      generalize r'.1 = ra' at *
      generalize r.2.2 = rc at *
      generalize r'.2.2 = rc' at *
      cases cl
      · go_wp2_with fail
        go_quiet_grown (first | (go_at_call 23; refine grown_call (CL.out _ (Gr.of_grow _ _))))
        have G2 := Lib.hid (HGW.out.trans (Gr.of_grow (w := wr) nq osq))
        clear d0 d1
        generalize Go.Sort.grow (wr.drewN nq) osq = w6 at G2 ⊢
        go_wp2
        go_ret
        exact ⟨rfl, G2.out.below⟩
      · have NX := Lib.hid (NXT.out rfl)
        clear NXT
        go_wp2_with fail
        go_quiet_grown (first | (go_at_call 23; refine grown_call (CL.out _ (Gr.of_grow _ _))))
        have G2 := Lib.hid (HGW.out.trans (Gr.of_grow (w := wr) nq osq))
        clear d0 d1
        generalize Go.Sort.grow (wr.drewN nq) osq = w6 at G2 ⊢
        go_wp2
        go_roundg (n - (i + 1))
        case measure => omega
        case rel => exact ⟨i + 1, by go_num, hi, Nat.le_refl _, ⟨NX.out, G2.out⟩⟩
    · have hiz : ¬ (i : Int) < (n : Int) := by omega
      obtain rfl : n = i := by omega
      have KA : ∀ r ∈ rA, isB r.2.1 = true := by
        intro r hr
        obtain ⟨k, hk⟩ := List.mem_iff_getElem?.1 hr
        have hkl : k < n := by
          have := HLA.out
          rcases Nat.lt_or_ge k rA.length with h | h
          · omega
          · rw [List.getElem?_eq_none h] at hk; cases hk
        have := HOK.out.1 k r (rS[k]'(by have := HLS.out; omega)) hkl hk (List.getElem?_eq_getElem _)
        unfold clearB at this
        simp only [Bool.and_eq_true] at this
        exact this.1
      have G0 := HOK.out.2.below
      have ORD := Lib.hid (implOrder p4 p6 a a' rA rS c c' n HLA.out HLS.out hn1 _ (EE.out.below G0) (HHA.out.below G0) (HHS.out.below G0) KA)
      have HG0 := Lib.hid G0
      have hsz0 : w.heap.size ≤ wr.heap.size := G0.size
      have KC := Lib.hid (fun (k : Nat) (r r' : Option Addr × List Int × Nat) (h1 : rA[k]? = some r) (h2 : rS[k]? = some r') => HOK.out.1 k r r' (by
        have := HLA.out
        rcases Nat.lt_or_ge k rA.length with h | h
        · omega
        · rw [List.getElem?_eq_none h] at h1; cases h1) h1 h2)
      have SPO := Lib.hid (fun W (G : Below w.heap.size w W) => specOrder_any a a' rA rS c c' n HLA.out HLS.out hn1 W (HHA.out.below G) (HHS.out.below G) KC.out)
      clear KA G0 HOK hkx KC
      go_wp2_with (first
        | (go_at_call 22; refine ORD.out.mono ?_; intro e w2 hq; obtain ⟨av, cv, xs, I, rfl, q1, q2, q6, q3, q4, q5⟩ := hq.form; have HP := Lib.hid q1; have HX := Lib.hid q2; have HI := Lib.hid q3; have HB := Lib.hid q5; have HXL := Lib.hid q6; clear q1 q2 q3 q4 q5 q6 hq; have HG1 := Lib.hid (HG0.out.trans (HB.out.mono hsz0)))
        | (go_at_call 25; refine (SPO.out _ HG1.out).mono ?_; rintro e w3 ⟨v2, ys, rfl, q2, q3, q5⟩; have HY := Lib.hid q2; have HJ := Lib.hid q3; have HB3 := Lib.hid q5; clear q2 q3 q5; have HEQ : Hid (xs = ys) := Ordd.unique (cfP_pre _) (by have := HX.out; rwa [cfI_P HP.out] at this) HY.out)
        | (go_at_call 24; refine (same_any _ _ xs ys _ (HI.out.below HB3.out) HJ.out (by have := HXL.out; omega) (by rw [← HEQ.out]; have := HXL.out; omega)).mono ?_; rintro e w4 ⟨rfl, q, rfl⟩))
      go_ret
      exact ⟨by rw [HEQ.out]; simp [sameB], ((HG1.out.trans (HB3.out.mono HG1.out.size)).trans ⟨rfl, rfl, rfl, Nat.le_refl _, fun _ _ => rfl⟩)⟩

set_option maxHeartbeats 2000000 in
set_option maxRecDepth 100000 in
theorem ord_unfit1 (a a' : Option Addr) (rA rS : List (Option Addr × List Int × Nat)) (c c' : Nat) (w : World) (HA : HoldsBB w a rA) (hA : rA.length ≤ maxLen) (F1 : fitsB rA = false) :
    Calls Tryd.prog 9 #[.slice a rA.length c, .slice a' rS.length c'] w fun e w' => e = .returned (.bool true) ∧ Below w.heap.size w w' := by
  have Z1 := zzFits_any a rA c w HA hA
  rw [F1] at Z1
  have ZF1 := Lib.hid Z1
  clear Z1 HA hA F1
  generalize rA.length = n at *
  generalize rS.length = m at *
  go_enter Tryd.func9, Tryd.ntmps9
  go_wp2_with (go_at_call 21; ((with_reducible refine ZF1.out.mono ?_); rintro e w1 ⟨rfl, rfl⟩))
  go_ret
  exact ⟨rfl, Below.refl _ _⟩
set_option maxHeartbeats 2000000 in
set_option maxRecDepth 100000 in
theorem ord_unfit2 (a a' : Option Addr) (rA rS : List (Option Addr × List Int × Nat)) (c c' : Nat) (w : World) (HA : HoldsBB w a rA) (HS : HoldsBB w a' rS) (hA : rA.length ≤ maxLen) (hS : rS.length ≤ maxLen) (F1 : fitsB rA = true) (F2 : fitsB rS = false) :
    Calls Tryd.prog 9 #[.slice a rA.length c, .slice a' rS.length c'] w fun e w' => e = .returned (.bool true) ∧ Below w.heap.size w w' := by
  have Z1 := zzFits_any a rA c w HA hA
  have Z2 := zzFits_any a' rS c' w HS hS
  rw [F1] at Z1
  rw [F2] at Z2
  have ZF1 := Lib.hid Z1
  have ZF2 := Lib.hid Z2
  clear Z1 Z2 HA HS hA hS F1 F2
  generalize rA.length = n at *
  generalize rS.length = m at *
  go_enter Tryd.func9, Tryd.ntmps9
  go_wp2_with (first | (go_at_call 21; ((with_reducible refine ZF1.out.mono ?_); rintro e w1 ⟨rfl, rfl⟩)) | (go_at_call 21; ((with_reducible refine ZF2.out.mono ?_); rintro e w1 ⟨rfl, rfl⟩)))
  go_ret
  exact ⟨rfl, Below.refl _ _⟩
set_option maxHeartbeats 2000000 in
set_option maxRecDepth 100000 in
theorem ord_len (a a' : Option Addr) (rA rS : List (Option Addr × List Int × Nat)) (c c' : Nat) (w : World) (HA : HoldsBB w a rA) (HS : HoldsBB w a' rS) (hA : rA.length ≤ maxLen) (hS : rS.length ≤ maxLen) (F1 : fitsB rA = true) (F2 : fitsB rS = true) (hl : rA.length ≠ rS.length ∨ 1000 < rA.length) :
    Calls Tryd.prog 9 #[.slice a rA.length c, .slice a' rS.length c'] w fun e w' => e = .returned (.bool true) ∧ Below w.heap.size w w' := by
  have Z1 := zzFits_any a rA c w HA hA
  have Z2 := zzFits_any a' rS c' w HS hS
  rw [F1] at Z1
  rw [F2] at Z2
  have ZF1 := Lib.hid Z1
  have ZF2 := Lib.hid Z2
  clear Z1 Z2 HA HS hA hS F1 F2
  generalize rA.length = n at *
  generalize rS.length = m at *
  by_cases e : n = m
  · subst e
    have nn : ((n : Int) != (n : Int)) = false := by simp
    have hz : (1000 : Int) < (n : Int) := by omega
    clear hl
    go_enter Tryd.func9, Tryd.ntmps9
    go_wp2_with (first | (go_at_call 21; ((with_reducible refine ZF1.out.mono ?_); rintro e w1 ⟨rfl, rfl⟩)) | (go_at_call 21; ((with_reducible refine ZF2.out.mono ?_); rintro e w1 ⟨rfl, rfl⟩)))
    go_ret
    exact ⟨rfl, Below.refl _ _⟩
  · have ne : ((n : Int) != (m : Int)) = true := by rw [bne_iff_ne]; omega
    clear hl e
    go_enter Tryd.func9, Tryd.ntmps9
    go_wp2_with (first | (go_at_call 21; ((with_reducible refine ZF1.out.mono ?_); rintro e w1 ⟨rfl, rfl⟩)) | (go_at_call 21; ((with_reducible refine ZF2.out.mono ?_); rintro e w1 ⟨rfl, rfl⟩)))
    go_ret
    exact ⟨rfl, Below.refl _ _⟩

/-- The law, whatever the two arguments. -/
theorem ord_walk (p4 p6 : Addr) (a : Option Addr) (rA : List (Option Addr × List Int × Nat)) (c : Nat) (a' : Option Addr) (rS : List (Option Addr × List Int × Nat)) (c' : Nat) (w : World) (E : EnvO p4 p6 w) (k0 : rA.length ≤ c) (k1 : c ≤ maxLen) (HA : HoldsBB w a rA) (k2 : rS.length ≤ c') (k3 : c' ≤ maxLen) (HS : HoldsBB w a' rS) :
    Calls Tryd.prog 9 #[.slice a rA.length c, .slice a' rS.length c'] w fun e w' => e = .returned (.bool true) ∧ Below w.heap.size w w' := by
  have hA : rA.length ≤ maxLen := Nat.le_trans k0 k1
  have hS : rS.length ≤ maxLen := Nat.le_trans k2 k3
  cases F1 : fitsB rA with
  | false => exact ord_unfit1 a a' rA rS c c' w HA hA F1
  | true =>
    cases F2 : fitsB rS with
    | false => exact ord_unfit2 a a' rA rS c c' w HA HS hA hS F1 F2
    | true =>
      by_cases hl : rA.length ≠ rS.length ∨ 1000 < rA.length
      · exact ord_len a a' rA rS c c' w HA HS hA hS F1 F2 hl
      · obtain ⟨n, hn⟩ : ∃ n, n = rA.length := ⟨_, rfl⟩
        have e2 : rS.length = n := by omega
        rw [e2, ← hn]
        exact ord_main p4 p6 a a' rA rS c c' n hn.symm e2 (by omega) w E HA HS F1 F2
end Go.Proofs.YtbejikpopealdaaDoor
