/-
  laws.FnAllAreThere, walked: whatever the two arguments, the call returns true and nothing that was there has turned.
-/
import Derived.Test.YtbejikpopealdaaDoorQLawA
namespace Go.Proofs.YtbejikpopealdaaDoor
open Go.RowKit Go.Sort

theorem Tryd.info4 : (Tryd.prog.info? 4).map (fun i => (i.zero, i.size, i.bytes)) = some (some (.bool false), 1, 1) := by kernel_rfl

/-- The marks of what has been seen. -/
def seenL (n : Nat) (ys : List Nat) : List Value := (List.range n).map fun k => .bool (decide (k ∈ ys))
theorem seenL_at {n : Nat} {ys : List Nat} {x : Nat} (h : x < n) : (seenL n ys)[x]? = some (.bool (decide (x ∈ ys))) := by
  unfold seenL
  rw [List.getElem?_map, List.getElem?_range h]
  rfl
theorem seenL_set {n : Nat} {ys : List Nat} {x : Nat} (h : x < n) : (seenL n ys).set x (.bool true) = seenL n (ys ++ [x]) := by
  apply List.ext_getElem?
  intro k
  by_cases hk : k < n
  · rw [seenL_at hk]
    by_cases e : k = x
    · subst e
      rw [List.getElem?_set_self (by simp [seenL]; exact h)]
      simp
    · rw [List.getElem?_set_ne (Ne.symm e), seenL_at hk]
      simp [e]
  · rw [List.getElem?_eq_none (by simp [seenL]; omega), List.getElem?_eq_none (by simp [seenL]; omega)]

/-- While the indices are gone through. -/
def AllRel (B n : Nat) (v : Value) (xs : List Nat) (w : World) (j : Nat) (W : World) : Prop :=
  W.ownsRow B 4 1 (.slice (some ⟨B, 0, none⟩) n n) n (seenL n (xs.take j)) ∧ HoldsI W v xs ∧ Below B w W
theorem AllRel.step {B n : Nat} {v : Value} {xs : List Nat} {w W : World} {j x : Nat} (h : AllRel B n v xs w j W) (hx : xs[j]? = some x) (hn : x < n) (hv : ∀ k, v.ownBlock = some k → k ≠ B) : AllRel B n v xs w (j + 1) (W.setCell ⟨B, x, none⟩ (.bool true)) := by
  obtain ⟨h1, h2, h3⟩ := h
  obtain ⟨o1, g1⟩ := h1.stored x (.bool true)
  refine ⟨?_, ?_, h3.setCell (Nat.le_refl _) _⟩
  · rw [List.take_add_one, hx]
    rw [seenL_set hn] at o1
    exact o1
  · obtain ⟨a, c, q1, q2, q3⟩ := h2
    refine ⟨a, c, q1, q2, ?_⟩
    rcases q3 with q3 | ⟨b, off, e, hb, hc⟩
    · exact Or.inl q3
    · refine Or.inr ⟨b, off, e, by simpa using hb, fun i y hy => ?_⟩
      have hne : b ≠ B := hv b (by rw [q1, e]; rfl)
      rw [World.cell?_setCell_other _ _ _ _ (fun e => hne (by rw [Addr.mk.injEq] at e; exact e.1.symm))]
      exact hc i y hy

def okAll (r r' : Option Addr × List Int × Nat) : Bool := isB r.2.1 && (decide (r'.2.1.length = 0) || isB r'.2.1)

theorem bb_cell {w : World} {a : Option Addr} {rs : List (Option Addr × List Int × Nat)} (h : HoldsBB w a rs) {j : Nat} {r : Option Addr × List Int × Nat} (hr : rs[j]? = some r) :
    ∃ b off, a = some ⟨b, off, none⟩ ∧ w.cell? ⟨b, off + j, none⟩ = some (.slice r.1 r.2.1.length r.2.2) ∧ r.2.1.length ≤ 9223372036854775807 := by
  have hm := h.1 r (List.mem_of_getElem? hr)
  have h2 := hm.2.1
  unfold maxLen at h2
  rcases h.2 with h0 | ⟨b, off, e, _, h0⟩
  · rw [h0] at hr; simp at hr
  · exact ⟨b, off, e, h0 j r hr, by omega⟩

set_option maxHeartbeats 8000000 in
set_option maxRecDepth 1000000 in
theorem fnAll_main (p4 p6 : Addr) (a a' : Option Addr) (rA rS : List (Option Addr × List Int × Nat)) (c c' n : Nat) (hA : rA.length = n) (hS : rS.length = n) (hn1 : n ≤ 1000) (w : World) (E : EnvO p4 p6 w) (HA : HoldsBB w a rA) (HS : HoldsBB w a' rS) (F1 : fitsB rA = true) (F2 : fitsB rS = true) :
    Calls Tryd.prog 7 #[.slice a n c, .slice a' n c'] w fun e w' => e = .returned (.bool true) ∧ Below w.heap.size w w' := by
  have Z1 := zzFits_any a rA c w HA (by unfold maxLen; omega)
  have Z2 := zzFits_any a' rS c' w HS (by unfold maxLen; omega)
  rw [F1, hA] at Z1
  rw [F2, hS] at Z2
  have ZF1 := Lib.hid Z1
  have ZF2 := Lib.hid Z2
  have HHA := Lib.hid HA
  have HHS := Lib.hid HS
  have EE := Lib.hid E
  have HLA := Lib.hid hA
  have HLS := Lib.hid hS
  have nn : ((n : Int) != (n : Int)) = false := by simp
  have n1000 : ¬ (1000 : Int) < (n : Int) := by omega
  obtain ⟨i4, hi4, hz4, hs4, hb4⟩ := info_parts Tryd.info4
  have hmk0 : (Instr.makeSlice 33 (.int .i64 (n : Int)) (.int .i64 (n : Int))).run Tryd.prog w = .ok (.slice (some ⟨w.heap.size, 0, none⟩) n n) (w.alloc (.cells (madeCells #[Value.bool false] n) 4)) := by
    have := run_make (P := Tryd.prog) w 33 4 i4 (.bool false) Tryd.underlying33 hi4 hz4 .i64 .i64 (n : Int) (n : Int) (by omega) (Int.le_refl _) (by rw [hb4]; omega) (by omega)
    rw [hs4, Int.toNat_natCast, Nat.mul_one] at this
    exact this
  have HMK := Lib.hid hmk0
  have OK0 : Hid (∀ k r r', k < 0 → rA[k]? = some r → rS[k]? = some r' → okAll r r' = true) := fun k r r' hk => absurd hk (Nat.not_lt_zero _)
  clear Z1 Z2 HA HS E hA hS F1 F2 hi4 hz4 hs4 hb4 hmk0
  go_enter Tryd.func7, Tryd.ntmps7
  go_wp2_with (first | (go_at_call 21; ((with_reducible refine ZF1.out.mono ?_); rintro e w1 ⟨rfl, rfl⟩)) | (go_at_call 21; ((with_reducible refine ZF2.out.mono ?_); rintro e w1 ⟨rfl, rfl⟩)))
  go_loopg [30] n (fun kx s30 wr => ∃ i : Nat, s30 = .int .i64 i ∧ i ≤ n ∧ n - i ≤ kx ∧ wr = w ∧ Hid (∀ k r r', k < i → rA[k]? = some r → rS[k]? = some r' → okAll r r' = true))
  case atStart => exact ⟨0, by go_num, Nat.zero_le _, by omega, rfl, OK0⟩
  case round =>
    clear OK0
    obtain ⟨i, rfl, hin, hkx, rfl, HOK⟩ := hrel
    by_cases hi : i < n
    · have hiz : (i : Int) < (n : Int) := by omega
      obtain ⟨r, hr⟩ : ∃ r, rA[i]? = some r := ⟨rA[i]'(by have := HLA.out; omega), List.getElem?_eq_getElem _⟩
      obtain ⟨r', hr'⟩ : ∃ r, rS[i]? = some r := ⟨rS[i]'(by have := HLS.out; omega), List.getElem?_eq_getElem _⟩
      obtain ⟨b, off, rfl, c0, m0⟩ := bb_cell HHA.out hr
      obtain ⟨b', off', rfl, c1, m1⟩ := bb_cell HHS.out hr'
      have IS1 := Lib.hid (is_any r.1 r.2.1.length r.2.2 wr)
      have IS2 := Lib.hid (is_any r'.1 r'.2.1.length r'.2.2 wr)
      have NXT : Hid (okAll r r' = true → ∀ k q q', k < i + 1 → rA[k]? = some q → rS[k]? = some q' → okAll q q' = true) := by
        intro ho k q q' hk h1 h2
        by_cases e : k = i
        · subst e
          rw [hr] at h1; rw [hr'] at h2
          cases h1; cases h2; exact ho
        · exact HOK.out k q q' (by omega) h1 h2
      unfold okAll at NXT
      rw [show (r.2.1.length == 4 || r.2.1.length == 16) = isB r.2.1 from rfl] at IS1
      rw [show (r'.2.1.length == 4 || r'.2.1.length == 16) = isB r'.2.1 from rfl] at IS2
      clear hr hr'
      generalize isB r.2.1 = o1 at *
      generalize isB r'.2.1 = o2 at *
      generalize r.2.1.length = zl at *
      generalize r'.2.1.length = yl at *
      generalize r.1 = ra at *
      generalize r'.1 = ra' at *
      cases o1
      · go_wp2_with (go_at_call 15; ((with_reducible refine IS1.out.mono ?_); rintro e w1 ⟨rfl, rfl⟩))
        go_ret
        exact ⟨rfl, Below.refl _ _⟩
      · by_cases hy : yl = 0
        · have hyz : ((yl : Int) != 0) = false := by simp [hy]
          have NX := Lib.hid (NXT.out (by simp [hy]))
          clear NXT hy
          go_wp2_with (go_at_call 15; ((with_reducible refine IS1.out.mono ?_); rintro e w1 ⟨rfl, rfl⟩))
          go_roundg (n - (i + 1))
          case measure => omega
          case rel => exact ⟨i + 1, by go_num, hi, Nat.le_refl _, rfl, NX⟩
        · have hyz : ((yl : Int) != 0) = true := by rw [bne_iff_ne]; omega
          cases o2
          · go_wp2_with (first | (go_at_call 15; ((with_reducible refine IS1.out.mono ?_); rintro e w1 ⟨rfl, rfl⟩)) | (go_at_call 15; ((with_reducible refine IS2.out.mono ?_); rintro e w1 ⟨rfl, rfl⟩)))
            go_ret
            exact ⟨rfl, Below.refl _ _⟩
          · have NX := Lib.hid (NXT.out (by simp))
            clear NXT hy
            go_wp2_with (first | (go_at_call 15; ((with_reducible refine IS1.out.mono ?_); rintro e w1 ⟨rfl, rfl⟩)) | (go_at_call 15; ((with_reducible refine IS2.out.mono ?_); rintro e w1 ⟨rfl, rfl⟩)))
            go_roundg (n - (i + 1))
            case measure => omega
            case rel => exact ⟨i + 1, by go_num, hi, Nat.le_refl _, rfl, NX⟩
    · have hiz : ¬ (i : Int) < (n : Int) := by omega
      obtain rfl : n = i := by omega
      have KA : ∀ r ∈ rA, isB r.2.1 = true := by
        intro r hr
        obtain ⟨k, hk⟩ := List.mem_iff_getElem?.1 hr
        have hkl : k < n := by
          have := HLA.out
          rcases Nat.lt_or_ge k rA.length with h | h
          · omega
          · rw [List.getElem?_eq_none h] at hk; cases hk
        have := HOK.out k r (rS[k]'(by have := HLS.out; omega)) hkl hk (List.getElem?_eq_getElem _)
        unfold okAll at this
        simp only [Bool.and_eq_true] at this
        exact this.1
      have G0 : Below wr.heap.size wr (wr.alloc (.cells (madeCells #[Value.bool false] n) 4)) := (Below.refl _ _).alloc (Nat.le_refl _) _
      have OW : (wr.alloc (.cells (madeCells #[Value.bool false] n) 4)).ownsRow wr.heap.size 4 1 (.slice (some ⟨wr.heap.size, 0, none⟩) n n) n (seenL n []) := by
        have := World.ownsRow_lit (base := wr.heap.size) (e := 4) (size := 1) wr (madeCells #[Value.bool false] n) n (Nat.le_refl _) (by unfold maxLen; omega) (by rw [size_madeCells, Nat.mul_one])
        rw [toList_madeCells_one] at this
        have e : seenL n [] = List.replicate n (.bool false) := by
          apply List.ext_getElem?
          intro k
          by_cases hk : k < n
          · rw [seenL_at hk, List.getElem?_replicate, if_pos hk]; simp
          · rw [List.getElem?_eq_none (by simp [seenL]; omega), List.getElem?_eq_none (by simp; omega)]
        rw [e]; exact this
      have ORD := Lib.hid (implOrder p4 p6 a a' rA rS c c' n HLA.out HLS.out hn1 _ (EE.out.below G0) (HHA.out.below G0) (HHS.out.below G0) KA)
      have hmk := HMK.out
      have HOW := Lib.hid OW
      have HG0 := Lib.hid G0
      have hsz : (wr.alloc (.cells (madeCells #[Value.bool false] n) 4)).heap.size = wr.heap.size + 1 := by simp
      have hsz1 : wr.heap.size < (wr.alloc (.cells (madeCells #[Value.bool false] n) 4)).heap.size := by omega
      clear hsz KA G0 OW HMK HOK
      generalize wr.alloc (.cells (madeCells #[Value.bool false] n) 4) = w1 at *
      go_wp2_with (go_at_call 22; refine ORD.out.mono ?_; intro e w2 hq; obtain ⟨av, cv, xs, I, rfl, q1, q2, q6, q3, q4, q5⟩ := hq.form; have HX := Lib.hid q2; have HI := Lib.hid q3; have HV := Lib.hid q4; have HB := Lib.hid q5; have HXL := Lib.hid q6; clear q1 q2 q3 q4 q5 q6 hq)
      have R0 : Hid (AllRel wr.heap.size n (.slice av n cv) xs wr 0 w2) := ⟨by rw [List.take_zero]; exact own_none HOW.out (below_none HB.out), HI.out, HG0.out.trans (HB.out.mono (Nat.le_of_lt hsz1))⟩
      have HV2 : Hid (∀ k, (Value.slice av n cv).ownBlock = some k → k ≠ wr.heap.size) := fun k hk => by have := HV.out k hk; omega
      obtain ⟨wo, rfl⟩ : ∃ wo : World, wo = wr := ⟨_, rfl⟩
      clear HG0 HOW ORD HHA HHS EE hmk
      go_loopg [64] n (fun kx s64 wr => ∃ j : Nat, s64 = .int .i64 j ∧ j ≤ n ∧ n - j ≤ kx ∧ Hid (AllRel wo.heap.size n (.slice av n cv) xs wo j wr))
      case atStart => exact ⟨0, by go_num, Nat.zero_le _, by omega, R0⟩
      case round =>
        clear R0
        obtain ⟨j, rfl, hjn, hkx, HR⟩ := hrel
        by_cases hj : j < n
        · have hjz : (j : Int) < (n : Int) := by omega
          obtain ⟨x, hx⟩ : ∃ x, xs[j]? = some x := ⟨xs[j]'(by have := HXL.out; omega), List.getElem?_eq_getElem _⟩
          have hxn : x < n := by
            have := HX.out.1.mem_iff.1 (List.mem_of_getElem? hx)
            simpa using this
          have hnd : decide (x ∈ xs.take j) = false := by
            refine decide_eq_false fun hm => ?_
            obtain ⟨k, hk⟩ := List.mem_iff_getElem?.1 hm
            rw [List.getElem?_take] at hk
            have hkj : k < j := by
              rcases Nat.lt_or_ge k j with h | h
              · exact h
              · rw [if_neg (by omega)] at hk; cases hk
            rw [if_pos hkj] at hk
            have nd : xs.Nodup := HX.out.1.nodup_iff.2 List.nodup_range
            have h1 : k < xs.length := by have := HXL.out; omega
            have h2 : j < xs.length := by have := HXL.out; omega
            have e1 : xs[k] = x := by rw [List.getElem?_eq_getElem h1] at hk; exact Option.some.inj hk
            have e2 : xs[j] = x := by rw [List.getElem?_eq_getElem h2] at hx; exact Option.some.inj hx
            exact (List.pairwise_iff_getElem.1 nd k j h1 h2 hkj) (e1.trans e2.symm)
          obtain ⟨bv, ov, rfl, c0⟩ := HR.out.2.1.at hx
          have c1 : wr.cell? ⟨wo.heap.size, x, none⟩ = some (.bool false) := by
            rw [HR.out.1.cellAt x (by omega), seenL_at hxn, hnd]
          have f1 := HR.out.1.frozenAt x
          have ST := Lib.hid (HR.out.step hx hxn HV2.out)
          have xz0 : ¬ (x : Int) < 0 := by omega
          have xz1 : ¬ (n : Int) ≤ (x : Int) := by omega
          have xz2 : (x : Int) < (n : Int) := by omega
          have hsz2 : wo.heap.size < wr.heap.size := World.block_lt_of_cell? _ _ c1
          clear hnd hx
          go_wp2
          go_roundg (n - (j + 1))
          case measure => omega
          case rel => exact ⟨j + 1, by go_num, hj, Nat.le_refl _, ST⟩
        · have hjz : ¬ (j : Int) < (n : Int) := by omega
          go_wp2
          go_ret
          exact ⟨by simp, HR.out.2.2⟩

set_option maxHeartbeats 2000000 in
set_option maxRecDepth 100000 in
theorem fnAll_unfit1 (a a' : Option Addr) (rA rS : List (Option Addr × List Int × Nat)) (c c' : Nat) (w : World) (HA : HoldsBB w a rA) (hA : rA.length ≤ maxLen) (F1 : fitsB rA = false) :
    Calls Tryd.prog 7 #[.slice a rA.length c, .slice a' rS.length c'] w fun e w' => e = .returned (.bool true) ∧ Below w.heap.size w w' := by
  have Z1 := zzFits_any a rA c w HA hA
  rw [F1] at Z1
  have ZF1 := Lib.hid Z1
  clear Z1 HA hA F1
  generalize rA.length = n at *
  generalize rS.length = m at *
  go_enter Tryd.func7, Tryd.ntmps7
  go_wp2_with (go_at_call 21; ((with_reducible refine ZF1.out.mono ?_); rintro e w1 ⟨rfl, rfl⟩))
  go_ret
  exact ⟨rfl, Below.refl _ _⟩
set_option maxHeartbeats 2000000 in
set_option maxRecDepth 100000 in
theorem fnAll_unfit2 (a a' : Option Addr) (rA rS : List (Option Addr × List Int × Nat)) (c c' : Nat) (w : World) (HA : HoldsBB w a rA) (HS : HoldsBB w a' rS) (hA : rA.length ≤ maxLen) (hS : rS.length ≤ maxLen) (F1 : fitsB rA = true) (F2 : fitsB rS = false) :
    Calls Tryd.prog 7 #[.slice a rA.length c, .slice a' rS.length c'] w fun e w' => e = .returned (.bool true) ∧ Below w.heap.size w w' := by
  have Z1 := zzFits_any a rA c w HA hA
  have Z2 := zzFits_any a' rS c' w HS hS
  rw [F1] at Z1
  rw [F2] at Z2
  have ZF1 := Lib.hid Z1
  have ZF2 := Lib.hid Z2
  clear Z1 Z2 HA HS hA hS F1 F2
  generalize rA.length = n at *
  generalize rS.length = m at *
  go_enter Tryd.func7, Tryd.ntmps7
  go_wp2_with (first | (go_at_call 21; ((with_reducible refine ZF1.out.mono ?_); rintro e w1 ⟨rfl, rfl⟩)) | (go_at_call 21; ((with_reducible refine ZF2.out.mono ?_); rintro e w1 ⟨rfl, rfl⟩)))
  go_ret
  exact ⟨rfl, Below.refl _ _⟩
set_option maxHeartbeats 2000000 in
set_option maxRecDepth 100000 in
theorem fnAll_len (a a' : Option Addr) (rA rS : List (Option Addr × List Int × Nat)) (c c' : Nat) (w : World) (HA : HoldsBB w a rA) (HS : HoldsBB w a' rS) (hA : rA.length ≤ maxLen) (hS : rS.length ≤ maxLen) (F1 : fitsB rA = true) (F2 : fitsB rS = true) (hl : rA.length ≠ rS.length ∨ 1000 < rA.length) :
    Calls Tryd.prog 7 #[.slice a rA.length c, .slice a' rS.length c'] w fun e w' => e = .returned (.bool true) ∧ Below w.heap.size w w' := by
  have Z1 := zzFits_any a rA c w HA hA
  have Z2 := zzFits_any a' rS c' w HS hS
  rw [F1] at Z1
  rw [F2] at Z2
  have ZF1 := Lib.hid Z1
  have ZF2 := Lib.hid Z2
  clear Z1 Z2 HA HS hA hS F1 F2
  generalize rA.length = n at *
  generalize rS.length = m at *
  by_cases e : n = m
  · subst e
    have nn : ((n : Int) != (n : Int)) = false := by simp
    have hz : (1000 : Int) < (n : Int) := by omega
    clear hl
    go_enter Tryd.func7, Tryd.ntmps7
    go_wp2_with (first | (go_at_call 21; ((with_reducible refine ZF1.out.mono ?_); rintro e w1 ⟨rfl, rfl⟩)) | (go_at_call 21; ((with_reducible refine ZF2.out.mono ?_); rintro e w1 ⟨rfl, rfl⟩)))
    go_ret
    exact ⟨rfl, Below.refl _ _⟩
  · have ne : ((n : Int) != (m : Int)) = true := by rw [bne_iff_ne]; omega
    clear hl e
    go_enter Tryd.func7, Tryd.ntmps7
    go_wp2_with (first | (go_at_call 21; ((with_reducible refine ZF1.out.mono ?_); rintro e w1 ⟨rfl, rfl⟩)) | (go_at_call 21; ((with_reducible refine ZF2.out.mono ?_); rintro e w1 ⟨rfl, rfl⟩)))
    go_ret
    exact ⟨rfl, Below.refl _ _⟩

/-- laws.FnAllAreThere, whatever the two arguments. -/
theorem fnAll_walk (p4 p6 : Addr) (a : Option Addr) (rA : List (Option Addr × List Int × Nat)) (c : Nat) (a' : Option Addr) (rS : List (Option Addr × List Int × Nat)) (c' : Nat) (w : World) (E : EnvO p4 p6 w) (k0 : rA.length ≤ c) (k1 : c ≤ maxLen) (HA : HoldsBB w a rA) (k2 : rS.length ≤ c') (k3 : c' ≤ maxLen) (HS : HoldsBB w a' rS) :
    Calls Tryd.prog 7 #[.slice a rA.length c, .slice a' rS.length c'] w fun e w' => e = .returned (.bool true) ∧ Below w.heap.size w w' := by
  have hA : rA.length ≤ maxLen := Nat.le_trans k0 k1
  have hS : rS.length ≤ maxLen := Nat.le_trans k2 k3
  cases F1 : fitsB rA with
  | false => exact fnAll_unfit1 a a' rA rS c c' w HA hA F1
  | true =>
    cases F2 : fitsB rS with
    | false => exact fnAll_unfit2 a a' rA rS c c' w HA HS hA hS F1 F2
    | true =>
      by_cases hl : rA.length ≠ rS.length ∨ 1000 < rA.length
      · exact fnAll_len a a' rA rS c c' w HA HS hA hS F1 F2 hl
      · obtain ⟨n, hn⟩ : ∃ n, n = rA.length := ⟨_, rfl⟩
        have e2 : rS.length = n := by omega
        rw [e2, ← hn]
        exact fnAll_main p4 p6 a a' rA rS c c' n hn.symm e2 (by omega) w E HA HS F1 F2
end Go.Proofs.YtbejikpopealdaaDoor
