/-
  laws.FnUnreachableAreLast, walked: whatever the two arguments, the call returns true and nothing that was there has turned.
-/
import Derived.Test.YtbejikpopealdaaDoorQAll
namespace Go.Proofs.YtbejikpopealdaaDoor
open Go.RowKit Go.Sort

/-! ### the plain law -/
theorem countP_mono {p : Nat → Bool} : ∀ {xs : List Nat}, xs.Pairwise (fun a b => p b = true → p a = true) → ∀ k x, xs[k]? = some x → (k < xs.countP p ↔ p x = true)
  | [], _, k, x, h => by simp at h
  | a :: l, hp, k, x, h => by
    obtain ⟨h1, h2⟩ := List.pairwise_cons.1 hp
    cases ha : p a with
    | true =>
      rw [List.countP_cons_of_pos ha]
      cases k with
      | zero => simp at h; subst h; simp [ha]
      | succ k =>
        have := countP_mono h2 k x (by simpa using h)
        rw [← this]; omega
    | false =>
      have h0 : l.countP p = 0 := List.countP_eq_zero.2 fun b hb hpb => by
        have := h1 b hb hpb
        rw [ha] at this; cases this
      rw [List.countP_cons_of_neg (by rw [ha]; decide), h0]
      cases k with
      | zero => simp at h; subst h; simp [ha]
      | succ k =>
        have hx : x ∈ l := List.mem_of_getElem? (by simpa using h)
        constructor
        · intro q; omega
        · intro q
          have := h1 x hx q
          rw [ha] at this; cases this

/-- Whether the x-th destination has a source. -/
def reachB (I : List Dst) (x : Nat) : Bool := match I[x]? with
  | some r => isB r.2.2.2
  | none => false
theorem keyI_head (I : List Dst) (x : Nat) (hx : x < I.length) : (reachB I x = true → ∃ l, keyI I x = 0 :: l) ∧ (reachB I x = false → keyI I x = [1, 0, 0, 0, 0, 0]) := by
  obtain ⟨r, hr⟩ : ∃ r, I[x]? = some r := ⟨_, List.getElem?_eq_getElem hx⟩
  unfold reachB keyI
  rw [hr]
  exact ⟨fun h => ⟨_, keyU_yes h⟩, fun h => keyU_no h⟩
theorem reach_mono {I : List Dst} {n : Nat} (hI : I.length = n) {xs : List Nat} (h : Ordd (cfI I) n xs) : xs.Pairwise (fun a b => reachB I b = true → reachB I a = true) := by
  refine (List.Pairwise.and_mem.1 h.2).imp fun {a b} ⟨ha, hb, hs⟩ hb1 => ?_
  have la : a < I.length := by have := h.1.mem_iff.1 ha; rw [hI]; simpa using this
  have lb : b < I.length := by have := h.1.mem_iff.1 hb; rw [hI]; simpa using this
  cases ha1 : reachB I a with
  | true => rfl
  | false =>
    exfalso
    obtain ⟨l, e2⟩ := (keyI_head I b lb).1 hb1
    have e1 := (keyI_head I a la).2 ha1
    have : cfI I a b = 1 := by unfold cfI; rw [e1, e2]; rfl
    unfold Sb at hs
    omega
theorem reach_count {I : List Dst} {n : Nat} (hI : I.length = n) {xs : List Nat} (h : Ordd (cfI I) n xs) {k x : Nat} (hx : xs[k]? = some x) : k < (List.range n).countP (reachB I) ↔ reachB I x = true := by
  rw [← h.1.countP_eq]
  exact countP_mono (reach_mono hI h) k x hx
theorem reach_last {I : List Dst} {n : Nat} (hI : I.length = n) {xs : List Nat} (h : Ordd (cfI I) n xs) {j k x y : Nat} (hx : xs[j]? = some x) (hy : xs[k]? = some y) (hjk : j < k) (rx : reachB I x = false) (ry : reachB I y = false) : x < y := by
  have lj : j < xs.length := by
    rcases Nat.lt_or_ge j xs.length with h | h
    · exact h
    · rw [List.getElem?_eq_none h] at hx; cases hx
  have lk : k < xs.length := by
    rcases Nat.lt_or_ge k xs.length with h | h
    · exact h
    · rw [List.getElem?_eq_none h] at hy; cases hy
  have ex : xs[j] = x := by rw [List.getElem?_eq_getElem lj] at hx; exact Option.some.inj hx
  have ey : xs[k] = y := by rw [List.getElem?_eq_getElem lk] at hy; exact Option.some.inj hy
  have hs := List.pairwise_iff_getElem.1 h.2 j k lj lk hjk
  rw [ex, ey] at hs
  have la : x < I.length := by have := h.1.mem_iff.1 (List.mem_of_getElem? hx); rw [hI]; simpa using this
  have lb : y < I.length := by have := h.1.mem_iff.1 (List.mem_of_getElem? hy); rw [hI]; simpa using this
  have e1 := (keyI_head I x la).2 rx
  have e2 := (keyI_head I y lb).2 ry
  have : cfI I x y = 0 := by unfold cfI; rw [e1, e2]; rfl
  unfold Sb at hs
  omega
/-- How many of the first i have a source. -/
def cntS (rS : List (Option Addr × List Int × Nat)) (i : Nat) : Nat := (rS.take i).countP fun r => decide (0 < r.2.1.length)
theorem cntS_step {rS : List (Option Addr × List Int × Nat)} {i : Nat} {r : Option Addr × List Int × Nat} (h : rS[i]? = some r) : cntS rS (i + 1) = cntS rS i + (if 0 < r.2.1.length then 1 else 0) := by
  unfold cntS
  rw [List.take_add_one, h, List.countP_append]
  simp [List.countP_cons]
theorem cntS_le (rS : List (Option Addr × List Int × Nat)) (i : Nat) : cntS rS i ≤ i := by
  unfold cntS
  have := List.countP_le_length (p := fun r : Option Addr × List Int × Nat => decide (0 < r.2.1.length)) (l := rS.take i)
  have h2 : (rS.take i).length ≤ i := by simp; omega
  omega
/-- The sources' bytes at an index. -/
theorem pair_at {rA rS : List (Option Addr × List Int × Nat)} {I : List Dst} (h : I.map (fun r : Dst => (r.2.2.1, r.2.2.2)) = pairsB rA rS) {x : Nat} {r r' : Option Addr × List Int × Nat} (hr : rA[x]? = some r) (hr' : rS[x]? = some r') : ∃ d, I[x]? = some d ∧ d.2.2.1 = r.2.1 ∧ d.2.2.2 = r'.2.1 := by
  have hp : (pairsB rA rS)[x]? = some (r.2.1, r'.2.1) := by
    unfold pairsB
    rw [List.getElem?_zip_eq_some]
    simp [hr, hr']
  rw [← h, List.getElem?_map] at hp
  obtain ⟨d, h1, h2⟩ := Option.map_eq_some_iff.1 hp
  exact ⟨d, h1, congrArg Prod.fst h2, congrArg Prod.snd h2⟩
theorem pair_len {rA rS : List (Option Addr × List Int × Nat)} {I : List Dst} {n : Nat} (h : I.map (fun r : Dst => (r.2.2.1, r.2.2.2)) = pairsB rA rS) (hA : rA.length = n) (hS : rS.length = n) : I.length = n := by
  have := congrArg List.length h
  simp [pairsB, hA, hS] at this
  exact this
theorem cnt_reach {rA rS : List (Option Addr × List Int × Nat)} {I : List Dst} {n : Nat} (h : I.map (fun r : Dst => (r.2.2.1, r.2.2.2)) = pairsB rA rS) (hA : rA.length = n) (hS : rS.length = n)
    (hc : ∀ (k : Nat) (r r' : Option Addr × List Int × Nat), rA[k]? = some r → rS[k]? = some r' → clearB r.2.1 r'.2.1 = true) : (List.range n).countP (reachB I) = cntS rS n ∧ ∀ x r', rS[x]? = some r' → reachB I x = decide (0 < r'.2.1.length) := by
  have key : ∀ x r', rS[x]? = some r' → reachB I x = decide (0 < r'.2.1.length) := by
    intro x r' hr'
    have hx : x < n := by
      rcases Nat.lt_or_ge x rS.length with h | h
      · omega
      · rw [List.getElem?_eq_none h] at hr'; cases hr'
    obtain ⟨r, hr⟩ : ∃ r, rA[x]? = some r := ⟨rA[x]'(by omega), List.getElem?_eq_getElem _⟩
    obtain ⟨d, h1, _, h3⟩ := pair_at h hr hr'
    have hcl := hc x r r' hr hr'
    unfold reachB
    rw [h1]
    show isB d.2.2.2 = _
    rw [h3]
    unfold clearB at hcl
    simp only [Bool.and_eq_true, Bool.or_eq_true, beq_iff_eq] at hcl
    rcases hcl.2 with h0 | ⟨h0, _⟩
    · rw [h0]; unfold isB; rw [h0]; rfl
    · rw [h0]
      have := isB_len.1 h0
      rw [decide_eq_true (by omega)]
  refine ⟨?_, key⟩
  have e : rS = (List.range n).map fun x => rS[x]?.getD (none, [], 0) := by
    apply List.ext_getElem?
    intro i
    by_cases hi : i < n
    · rw [List.getElem?_map, List.getElem?_range hi]
      obtain ⟨r, hr⟩ : ∃ r, rS[i]? = some r := ⟨rS[i]'(by omega), List.getElem?_eq_getElem _⟩
      simp [hr]
    · rw [List.getElem?_eq_none (by omega), List.getElem?_eq_none (by simp; omega)]
  unfold cntS
  rw [List.take_of_length_le (by omega)]
  conv => rhs; rw [e]
  rw [List.countP_map]
  apply List.countP_congr
  intro x hx
  have hx' : x < n := by simpa using hx
  obtain ⟨r, hr⟩ : ∃ r, rS[x]? = some r := ⟨rS[x]'(by omega), List.getElem?_eq_getElem _⟩
  rw [key x r hr]
  simp [hr]

/-! ### the walk -/
/-- The last index seen, of those without a source. -/
def lastOf (xs : List Nat) (n' k : Nat) : Int := if k ≤ n' then -1 else (((xs[k - 1]?.getD 0 : Nat)) : Int)

set_option maxHeartbeats 8000000 in
set_option maxRecDepth 1000000 in
theorem unr_main (p4 p6 : Addr) (a a' : Option Addr) (rA rS : List (Option Addr × List Int × Nat)) (c c' n : Nat) (hA : rA.length = n) (hS : rS.length = n) (hn1 : n ≤ 1000) (w : World) (E : EnvO p4 p6 w) (HA : HoldsBB w a rA) (HS : HoldsBB w a' rS) (F1 : fitsB rA = true) (F2 : fitsB rS = true) :
    Calls Tryd.prog 11 #[.slice a n c, .slice a' n c'] w fun e w' => e = .returned (.bool true) ∧ Below w.heap.size w w' := by
  have Z1 := zzFits_any a rA c w HA (by unfold maxLen; omega)
  have Z2 := zzFits_any a' rS c' w HS (by unfold maxLen; omega)
  rw [F1, hA] at Z1
  rw [F2, hS] at Z2
  have ZF1 := Lib.hid Z1
  have ZF2 := Lib.hid Z2
  have HHA := Lib.hid HA
  have HHS := Lib.hid HS
  have EE := Lib.hid E
  have HLA := Lib.hid hA
  have HLS := Lib.hid hS
  have nn : ((n : Int) != (n : Int)) = false := by simp
  have n1000 : ¬ (1000 : Int) < (n : Int) := by omega
  have hm := mixedT
  have OK0 : Hid ((∀ (k : Nat) (r r' : Option Addr × List Int × Nat), k < 0 → rA[k]? = some r → rS[k]? = some r' → clearB r.2.1 r'.2.1 = true) ∧ Gr w w) := ⟨fun k r r' hk => absurd hk (Nat.not_lt_zero _), Gr.refl _⟩
  clear Z1 Z2 HA HS E hA hS F1 F2
  go_enter Tryd.func11, Tryd.ntmps11
  go_wp2_with (first | (go_at_call 21; ((with_reducible refine ZF1.out.mono ?_); rintro e w1 ⟨rfl, rfl⟩)) | (go_at_call 21; ((with_reducible refine ZF2.out.mono ?_); rintro e w1 ⟨rfl, rfl⟩)))
  obtain ⟨wo, hwo⟩ : ∃ wo : World, wo = w := ⟨_, rfl⟩
  go_loopg [5, 31] n (fun kx s5 s31 wr => ∃ (i m : Nat), s31 = .int .i64 i ∧ s5 = .int .i64 m ∧ i ≤ n ∧ m ≤ i ∧ n - i ≤ kx ∧ Hid (m = cntS rS i) ∧ Hid ((∀ (k : Nat) (r r' : Option Addr × List Int × Nat), k < i → rA[k]? = some r → rS[k]? = some r' → clearB r.2.1 r'.2.1 = true) ∧ Gr w wr))
  case atStart => exact ⟨0, 0, by go_num, by go_num, Nat.zero_le _, Nat.le_refl _, by omega, (by show (0 : Nat) = _; simp [cntS]), OK0⟩
  case round =>
    clear OK0
    obtain ⟨i, m, rfl, rfl, hin, hmi, hkx, HM, HOK⟩ := hrel
    by_cases hi : i < n
    · have hiz : (i : Int) < (n : Int) := by omega
      have hiz0 : (0 : Int) ≤ (i : Int) := by omega
      obtain ⟨r, hr⟩ : ∃ r, rA[i]? = some r := ⟨rA[i]'(by have := HLA.out; omega), List.getElem?_eq_getElem _⟩
      obtain ⟨r', hr'⟩ : ∃ r, rS[i]? = some r := ⟨rS[i]'(by have := HLS.out; omega), List.getElem?_eq_getElem _⟩
      have hg := HOK.out.2
      have HA2 := HHA.out.below hg.below
      have HS2 := HHS.out.below hg.below
      obtain ⟨b, off, rfl, c0, m0⟩ := bb_cell HA2 hr
      obtain ⟨b', off', rfl, c1, m1⟩ := bb_cell HS2 hr'
      have lb : b < wr.heap.size := World.block_lt_of_cell? _ _ c0
      have lb' : b' < wr.heap.size := World.block_lt_of_cell? _ _ c1
      have d0 := fun n os => cell_grown (w := wr) (n := n) (os := os) (a := ⟨b, off + i, none⟩) lb c0
      have d1 := fun n os => cell_grown (w := wr) (n := n) (os := os) (a := ⟨b', off' + i, none⟩) lb' c1
      have hz := (HA2.1 r (List.mem_of_getElem? hr)).2.2
      have hy := (HS2.1 r' (List.mem_of_getElem? hr')).2.2
      have CL := Lib.hid (fun W (g : Gr wr W) => clear_any r.1 r'.1 r.2.1 r'.2.1 r.2.2 r'.2.2 W (hz.gr g) (hy.gr g))
      have NXT : Hid (clearB r.2.1 r'.2.1 = true → ∀ (k : Nat) (q q' : Option Addr × List Int × Nat), k < i + 1 → rA[k]? = some q → rS[k]? = some q' → clearB q.2.1 q'.2.1 = true) := by
        intro ho k q q' hk h1 h2
        by_cases e : k = i
        · subst e
          rw [hr] at h1; rw [hr'] at h2
          cases h1; cases h2; exact ho
        · exact HOK.out.1 k q q' (by omega) h1 h2
      have CNT := Lib.hid (cntS_step hr')
      have HGW := Lib.hid hg
      clear hr hr' hz hy hg HA2 HS2
      generalize clearB r.2.1 r'.2.1 = cl at *
      generalize r.2.1.length = zl at *
      generalize r'.2.1.length = yl at *
      generalize r.1 = ra at *
      generalize r'.1 = ra' at *
      generalize r.2.2 = rc at *
      generalize r'.2.2 = rc' at *
      cases cl
      · go_wp2_with fail
        go_quiet_grown (first | (go_at_call 23; refine grown_call (CL.out _ (Gr.of_grow _ _))))
        have G2 := Lib.hid (HGW.out.trans (Gr.of_grow (w := wr) nq osq))
        clear d0 d1
        generalize Go.Sort.grow (wr.drewN nq) osq = w6 at G2 ⊢
        go_wp2
        go_ret
        exact ⟨rfl, G2.out.below⟩
      · have NX := Lib.hid (NXT.out rfl)
        clear NXT
        by_cases hy : 0 < yl
        · have hyz : (0 : Int) < (yl : Int) := by omega
          have CN : Hid (m + 1 = cntS rS (i + 1)) := by show _ = _; rw [CNT.out, if_pos hy, ← HM.out]
          clear hy CNT
          go_wp2_with fail
          go_quiet_grown (first | (go_at_call 23; refine grown_call (CL.out _ (Gr.of_grow _ _))))
          have G2 := Lib.hid (HGW.out.trans (Gr.of_grow (w := wr) nq osq))
          have e1 := d1 nq osq
          clear d0 d1
          generalize Go.Sort.grow (wr.drewN nq) osq = w6 at G2 e1 ⊢
          go_wp2
          go_roundg (n - (i + 1))
          case measure => omega
          case rel => exact ⟨i + 1, m + 1, by go_num, by go_num, hi, by omega, Nat.le_refl _, CN, ⟨NX.out, G2.out⟩⟩
        · have hyz : ¬ (0 : Int) < (yl : Int) := by omega
          have CN : Hid (m = cntS rS (i + 1)) := by show _ = _; rw [CNT.out, if_neg hy, ← HM.out]; rfl
          clear CNT
          go_wp2_with fail
          go_quiet_grown (first | (go_at_call 23; refine grown_call (CL.out _ (Gr.of_grow _ _))))
          have G2 := Lib.hid (HGW.out.trans (Gr.of_grow (w := wr) nq osq))
          have e1 := d1 nq osq
          clear d0 d1
          generalize Go.Sort.grow (wr.drewN nq) osq = w6 at G2 e1 ⊢
          go_wp2
          go_roundg (n - (i + 1))
          case measure => omega
          case rel => exact ⟨i + 1, m, by go_num, rfl, hi, by omega, Nat.le_refl _, CN, ⟨NX.out, G2.out⟩⟩
    · have hiz : ¬ (i : Int) < (n : Int) := by omega
      obtain rfl : n = i := by omega
      have CR := fun (I : List Dst) (hI : I.map (fun r : Dst => (r.2.2.1, r.2.2.2)) = pairsB rA rS) => cnt_reach hI HLA.out HLS.out (fun k r r' h1 h2 => HOK.out.1 k r r' (by
        have := HLA.out
        rcases Nat.lt_or_ge k rA.length with h | h
        · omega
        · rw [List.getElem?_eq_none h] at h1; cases h1) h1 h2)
      have KA : ∀ r ∈ rA, isB r.2.1 = true := by
        intro r hr
        obtain ⟨k, hk⟩ := List.mem_iff_getElem?.1 hr
        have hkl : k < n := by
          have := HLA.out
          rcases Nat.lt_or_ge k rA.length with h | h
          · omega
          · rw [List.getElem?_eq_none h] at hk; cases hk
        have := HOK.out.1 k r (rS[k]'(by have := HLS.out; omega)) hkl hk (List.getElem?_eq_getElem _)
        unfold clearB at this
        simp only [Bool.and_eq_true] at this
        exact this.1
      have G0 := HOK.out.2.below
      have ORD := Lib.hid (implOrder p4 p6 a a' rA rS c c' n HLA.out HLS.out hn1 _ (EE.out.below G0) (HHA.out.below G0) (HHS.out.below G0) KA)
      have HG0 := Lib.hid G0
      have HCR := Lib.hid CR
      have hsz0 : w.heap.size ≤ wr.heap.size := G0.size
      clear CR KA G0 HOK hkx
      go_wp2_with (go_at_call 22; refine ORD.out.mono ?_; intro e w2 hq; obtain ⟨av, cv, xs, I, rfl, q1, q2, q6, q3, q4, q5⟩ := hq.form; have HP := Lib.hid q1; have HX := Lib.hid q2; have HI := Lib.hid q3; have HB := Lib.hid q5; have HXL := Lib.hid q6; clear q1 q2 q3 q4 q5 q6 hq)
      have HIL := Lib.hid (pair_len HP.out HLA.out HLS.out)
      have CRI := Lib.hid (HCR.out I HP.out)
      have HG1 := Lib.hid (HG0.out.trans (HB.out.mono hsz0))
      have HHS2 := Lib.hid (HHS.out.below HG1.out)
      clear HCR HG0 HB ORD
      go_loopg [6, 58] n (fun kx s6 s58 wr => ∃ (k : Nat) (lz : Int), s58 = .int .i64 k ∧ s6 = .int .i64 lz ∧ -1 ≤ lz ∧ lz ≤ 1000 ∧ k ≤ n ∧ n - k ≤ kx ∧ Hid (lz = lastOf xs m k) ∧ wr = w2)
      case atStart => exact ⟨0, -1, by go_num, rfl, by omega, by omega, Nat.zero_le _, by omega, (by show (-1 : Int) = _; unfold lastOf; rw [if_pos (Nat.zero_le _)]), rfl⟩
      case round =>
        obtain ⟨k, lz, rfl, rfl, hlz0, hlz1, hkn, hkx, HL, rfl⟩ := hrel
        by_cases hk : k < n
        · have hkz : (k : Int) < (n : Int) := by omega
          obtain ⟨x, hx⟩ : ∃ x, xs[k]? = some x := ⟨xs[k]'(by have := HXL.out; omega), List.getElem?_eq_getElem _⟩
          have hxn : x < n := by
            have := HX.out.1.mem_iff.1 (List.mem_of_getElem? hx)
            simpa using this
          obtain ⟨bv, ov, rfl, c0⟩ := HI.out.at hx
          obtain ⟨r', hr'⟩ : ∃ r, rS[x]? = some r := ⟨rS[x]'(by have := HLS.out; omega), List.getElem?_eq_getElem _⟩
          obtain ⟨b', off', rfl, c1, m1⟩ := bb_cell HHS2.out hr'
          have hrc := reach_count HIL.out HX.out hx
          rw [CRI.out.1, CRI.out.2 x r' hr', ← HM.out, decide_eq_true_eq] at hrc
          have LST : Hid (¬ k < m → lz < (x : Int)) := by
            intro hkm
            rw [HL.out]
            unfold lastOf
            by_cases e : k ≤ m
            · rw [if_pos e]; omega
            · rw [if_neg e]
              obtain ⟨y, hy⟩ : ∃ y, xs[k - 1]? = some y := ⟨xs[k - 1]'(by have := HXL.out; omega), List.getElem?_eq_getElem _⟩
              have h1 := (reach_count HIL.out HX.out hy)
              have h2 := (reach_count HIL.out HX.out hx)
              rw [CRI.out.1, ← HM.out] at h1 h2
              have rx : reachB I x = false := by
                cases h : reachB I x with
                | false => rfl
                | true => exact absurd (h2.2 h) hkm
              have ry : reachB I y = false := by
                cases h : reachB I y with
                | false => rfl
                | true => exact absurd (h1.2 h) (by omega)
              have := reach_last HIL.out HX.out hy hx (by omega) ry rx
              rw [hy]
              simpa using this
          have NL : Hid (k < m → lz = lastOf xs m (k + 1)) := by
            intro hkm
            rw [HL.out]
            unfold lastOf
            rw [if_pos (by omega), if_pos (by omega)]
          have NL2 : Hid (¬ k < m → (x : Int) = lastOf xs m (k + 1)) := by
            intro hkm
            unfold lastOf
            rw [if_neg (by omega), Nat.add_sub_cancel, hx]
            rfl
          clear hx hr'
          generalize r'.2.1.length = yl at *
          generalize r'.1 = ra' at *
          generalize r'.2.2 = rc' at *
          have xz0 : (0 : Int) ≤ (x : Int) := by omega
          have xzn : (x : Int) < (n : Int) := by omega
          by_cases hkm : k < m
          · have hkmz : (k : Int) < (m : Int) := by omega
            have hkmz2 : ¬ (m : Int) ≤ (k : Int) := by omega
            have hy := hrc.1 hkm
            have hyz : (0 : Int) < (yl : Int) := by omega
            have N1 := Lib.hid (NL.out hkm)
            clear LST NL NL2 hrc
            go_wp2
            go_roundg (n - (k + 1))
            case measure => omega
            case rel => exact ⟨k + 1, lz, by go_num, rfl, hlz0, hlz1, hk, Nat.le_refl _, N1, rfl⟩
          · have hkmz : ¬ (k : Int) < (m : Int) := by omega
            have hkmz2 : (m : Int) ≤ (k : Int) := by omega
            have hyz : ¬ (0 : Int) < (yl : Int) := by
              intro h
              exact hkm (hrc.2 (by omega))
            have N1 := Lib.hid (NL2.out hkm)
            have hlt := LST.out hkm
            have hlt2 : ¬ (x : Int) ≤ lz := by omega
            clear LST NL NL2 hrc
            go_wp2
            go_roundg (n - (k + 1))
            case measure => omega
            case rel => exact ⟨k + 1, (x : Int), by go_num, rfl, by omega, by omega, hk, Nat.le_refl _, N1, rfl⟩
        · have hkz : ¬ (k : Int) < (n : Int) := by omega
          go_wp2
          go_ret
          exact ⟨by simp, HG1.out⟩

set_option maxHeartbeats 2000000 in
set_option maxRecDepth 100000 in
theorem unr_unfit1 (a a' : Option Addr) (rA rS : List (Option Addr × List Int × Nat)) (c c' : Nat) (w : World) (HA : HoldsBB w a rA) (hA : rA.length ≤ maxLen) (F1 : fitsB rA = false) :
    Calls Tryd.prog 11 #[.slice a rA.length c, .slice a' rS.length c'] w fun e w' => e = .returned (.bool true) ∧ Below w.heap.size w w' := by
  have Z1 := zzFits_any a rA c w HA hA
  rw [F1] at Z1
  have ZF1 := Lib.hid Z1
  clear Z1 HA hA F1
  generalize rA.length = n at *
  generalize rS.length = m at *
  go_enter Tryd.func11, Tryd.ntmps11
  go_wp2_with (go_at_call 21; ((with_reducible refine ZF1.out.mono ?_); rintro e w1 ⟨rfl, rfl⟩))
  go_ret
  exact ⟨rfl, Below.refl _ _⟩
set_option maxHeartbeats 2000000 in
set_option maxRecDepth 100000 in
theorem unr_unfit2 (a a' : Option Addr) (rA rS : List (Option Addr × List Int × Nat)) (c c' : Nat) (w : World) (HA : HoldsBB w a rA) (HS : HoldsBB w a' rS) (hA : rA.length ≤ maxLen) (hS : rS.length ≤ maxLen) (F1 : fitsB rA = true) (F2 : fitsB rS = false) :
    Calls Tryd.prog 11 #[.slice a rA.length c, .slice a' rS.length c'] w fun e w' => e = .returned (.bool true) ∧ Below w.heap.size w w' := by
  have Z1 := zzFits_any a rA c w HA hA
  have Z2 := zzFits_any a' rS c' w HS hS
  rw [F1] at Z1
  rw [F2] at Z2
  have ZF1 := Lib.hid Z1
  have ZF2 := Lib.hid Z2
  clear Z1 Z2 HA HS hA hS F1 F2
  generalize rA.length = n at *
  generalize rS.length = m at *
  go_enter Tryd.func11, Tryd.ntmps11
  go_wp2_with (first | (go_at_call 21; ((with_reducible refine ZF1.out.mono ?_); rintro e w1 ⟨rfl, rfl⟩)) | (go_at_call 21; ((with_reducible refine ZF2.out.mono ?_); rintro e w1 ⟨rfl, rfl⟩)))
  go_ret
  exact ⟨rfl, Below.refl _ _⟩
set_option maxHeartbeats 2000000 in
set_option maxRecDepth 100000 in
theorem unr_len (a a' : Option Addr) (rA rS : List (Option Addr × List Int × Nat)) (c c' : Nat) (w : World) (HA : HoldsBB w a rA) (HS : HoldsBB w a' rS) (hA : rA.length ≤ maxLen) (hS : rS.length ≤ maxLen) (F1 : fitsB rA = true) (F2 : fitsB rS = true) (hl : rA.length ≠ rS.length ∨ 1000 < rA.length) :
    Calls Tryd.prog 11 #[.slice a rA.length c, .slice a' rS.length c'] w fun e w' => e = .returned (.bool true) ∧ Below w.heap.size w w' := by
  have Z1 := zzFits_any a rA c w HA hA
  have Z2 := zzFits_any a' rS c' w HS hS
  rw [F1] at Z1
  rw [F2] at Z2
  have ZF1 := Lib.hid Z1
  have ZF2 := Lib.hid Z2
  clear Z1 Z2 HA HS hA hS F1 F2
  generalize rA.length = n at *
  generalize rS.length = m at *
  by_cases e : n = m
  · subst e
    have nn : ((n : Int) != (n : Int)) = false := by simp
    have hz : (1000 : Int) < (n : Int) := by omega
    clear hl
    go_enter Tryd.func11, Tryd.ntmps11
    go_wp2_with (first | (go_at_call 21; ((with_reducible refine ZF1.out.mono ?_); rintro e w1 ⟨rfl, rfl⟩)) | (go_at_call 21; ((with_reducible refine ZF2.out.mono ?_); rintro e w1 ⟨rfl, rfl⟩)))
    go_ret
    exact ⟨rfl, Below.refl _ _⟩
  · have ne : ((n : Int) != (m : Int)) = true := by rw [bne_iff_ne]; omega
    clear hl e
    go_enter Tryd.func11, Tryd.ntmps11
    go_wp2_with (first | (go_at_call 21; ((with_reducible refine ZF1.out.mono ?_); rintro e w1 ⟨rfl, rfl⟩)) | (go_at_call 21; ((with_reducible refine ZF2.out.mono ?_); rintro e w1 ⟨rfl, rfl⟩)))
    go_ret
    exact ⟨rfl, Below.refl _ _⟩

/-- The law, whatever the two arguments. -/
theorem unr_walk (p4 p6 : Addr) (a : Option Addr) (rA : List (Option Addr × List Int × Nat)) (c : Nat) (a' : Option Addr) (rS : List (Option Addr × List Int × Nat)) (c' : Nat) (w : World) (E : EnvO p4 p6 w) (k0 : rA.length ≤ c) (k1 : c ≤ maxLen) (HA : HoldsBB w a rA) (k2 : rS.length ≤ c') (k3 : c' ≤ maxLen) (HS : HoldsBB w a' rS) :
    Calls Tryd.prog 11 #[.slice a rA.length c, .slice a' rS.length c'] w fun e w' => e = .returned (.bool true) ∧ Below w.heap.size w w' := by
  have hA : rA.length ≤ maxLen := Nat.le_trans k0 k1
  have hS : rS.length ≤ maxLen := Nat.le_trans k2 k3
  cases F1 : fitsB rA with
  | false => exact unr_unfit1 a a' rA rS c c' w HA hA F1
  | true =>
    cases F2 : fitsB rS with
    | false => exact unr_unfit2 a a' rA rS c c' w HA HS hA hS F1 F2
    | true =>
      by_cases hl : rA.length ≠ rS.length ∨ 1000 < rA.length
      · exact unr_len a a' rA rS c c' w HA HS hA hS F1 F2 hl
      · obtain ⟨n, hn⟩ : ∃ n, n = rA.length := ⟨_, rfl⟩
        have e2 : rS.length = n := by omega
        rw [e2, ← hn]
        exact unr_main p4 p6 a a' rA rS c c' n hn.symm e2 (by omega) w E HA HS F1 F2
end Go.Proofs.YtbejikpopealdaaDoor
