/-
  spec.Compare, walked: the reference's rules in their order.
-/
import Derived.Test.YtbejikpopealdaaDoorQSmall
import Derived.Test.YtbejikpopealdaaDoorQSpecF
namespace Go.Proofs.YtbejikpopealdaaDoor
open Go.RowKit

theorem wide_16eq {ws : List Int} (hl : ws.length = 16) : wide ws = ws := by unfold wide; rw [if_neg (by omega)]
theorem scope16 (ws : List Int) (hl : ws.length = 16) (a : Option Addr) (c : Nat) (hc : 16 ≤ c) (W : World) (h : HoldsB W a ws) :
    Calls Tryd.prog 17 #[.slice a 16 c] W fun e w' => e = .returned (.int .i64 (scopeS ws)) ∧ Below W.heap.size W w' := by
  have := specScope a ws c (Or.inr hl) (by omega) W h
  rw [hl, wide_16eq hl] at this
  exact this
theorem policy16 (ws : List Int) (hl : ws.length = 16) (a : Option Addr) (c : Nat) (hc : 16 ≤ c) (W : World) (h : HoldsB W a ws) :
    Calls Tryd.prog 19 #[.slice a 16 c] W fun e w' => e = .returned (.tuple #[.int .i64 (polAt (sHit ws) 9).2.1, .int .i64 (polAt (sHit ws) 9).2.2]) ∧ Below W.heap.size W w' := by
  have := specPolicy a ws c (Or.inr hl) (by omega) W h
  rw [hl, wide_16eq hl] at this
  exact this
theorem four16is (ws : List Int) (hl : ws.length = 16) (a : Option Addr) (c : Nat) (W : World) (h : HoldsB W a ws) :
    Calls Tryd.prog 27 #[.slice a 16 c] W fun e w' => e = .returned (.bool (startsB ws four16 96)) ∧ Below W.heap.size W w' := by
  rcases h.2 with rfl | ⟨b, off, rfl, hb, hcs⟩
  · simp at hl
  refine (isFour_any b off c ws W hb (byt_getD h.1) (by rw [hl] at hcs; exact hcs)).mono ?_
  rintro e w' ⟨rfl, hg⟩
  exact ⟨rfl, hg.below⟩
theorem common16 (xs ys : List Int) (hx : xs.length = 16) (hy : ys.length = 16) (a a' : Option Addr) (c c' : Nat) (W : World) (h : HoldsB W a xs) (h' : HoldsB W a' ys) :
    Calls Tryd.prog 14 #[.slice a 16 c, .slice a' 16 c'] W fun e w' => e = .returned (.int .i64 (cplN xs ys)) ∧ Below W.heap.size W w' := by
  rcases h.2 with rfl | ⟨b, off, rfl, hb, hcs⟩
  · simp at hx
  rcases h'.2 with rfl | ⟨b', off', rfl, hb', hcs'⟩
  · simp at hy
  refine (specCommon b off c b' off' c' 16 16 xs ys W (by omega) (by omega) (byt_getD h.1) (byt_getD h'.1) (fun i hi => hcs i (by omega)) (fun i hi => hcs' i (by omega))).mono ?_
  rintro e w' ⟨rfl, hq⟩
  exact ⟨rfl, (Gr.of_quiet hq).below⟩

/-- The reference's answer and its rule, from the preferences. -/
def specV (r2 r5 r6 r8 : Int) (nf : Bool) (r9 : Int) : Int × Int :=
  if (r2 != 0) = true then (r2, 2) else if (r5 != 0) = true then (r5, 5) else if (r6 != 0) = true then (r6, 6) else if (r8 != 0) = true then (r8, 8) else if (nf && r9 != 0) = true then (r9, 9) else (0, 10)

set_option maxHeartbeats 20000000 in
set_option maxRecDepth 100000 in
theorem specCompare_yes (aA aA' aB aB' : Option Addr) (zA yA zB yB : List Int) (nA mA nB mB cA cA' cB cB' : Nat) (hnA : nA = zA.length) (hmA : mA = yA.length) (hnB : nB = zB.length) (hmB : mB = yB.length)
    (LA : zA.length = 4 ∨ zA.length = 16) (MA : yA.length = 4 ∨ yA.length = 16) (LB : zB.length = 4 ∨ zB.length = 16) (MB : yB.length = 4 ∨ yB.length = 16)
    (CA : zA.length ≤ cA) (CA' : yA.length ≤ cA') (CB : zB.length ≤ cB) (CB' : yB.length ≤ cB')
    (r2 r5 r6 r8 r9 R K : Int) (f1 f2 f3 f4 : Bool)
    (h2 : prefV (oneV (scopeS (wide zA) == scopeS (wide yA))) (oneV (scopeS (wide zB) == scopeS (wide yB))) = r2)
    (h5 : prefV (oneV ((polAt (sHit (wide zA)) 9).2.2 == (polAt (sHit (wide yA)) 9).2.2)) (oneV ((polAt (sHit (wide zB)) 9).2.2 == (polAt (sHit (wide yB)) 9).2.2)) = r5)
    (h6 : prefV (polAt (sHit (wide zA)) 9).2.1 (polAt (sHit (wide zB)) 9).2.1 = r6) (h8 : prefV (scopeS (wide zB)) (scopeS (wide zA)) = r8)
    (hf1 : startsB (wide zA) four16 96 = f1) (hf2 : startsB (wide zB) four16 96 = f2) (hf3 : startsB (wide yA) four16 96 = f3) (hf4 : startsB (wide yB) four16 96 = f4)
    (h9 : prefV (if f3 then 0 else (cplN (wide yA) (wide zA) : Int)) (if f4 then 0 else (cplN (wide yB) (wide zB) : Int)) = r9)
    (hRK : (R, K) = specV r2 r5 r6 r8 (!f1 && !f2) r9) (w : World) (HA : HoldsB w aA zA) (HA' : HoldsB w aA' yA) (HB : HoldsB w aB zB) (HB' : HoldsB w aB' yB) :
    Calls Tryd.prog 26 #[.slice aA nA cA, .slice aA' mA cA', .slice aB nB cB, .slice aB' mB cB'] w fun e w' => e = .returned (.tuple #[.int .i64 R, .int .i64 K]) ∧ Below w.heap.size w w' := by
  have WLA := Lib.hid (wide_len LA)
  have WLB := Lib.hid (wide_len LB)
  have SDA := Lib.hid (fun W => specScope aA zA cA LA CA W)
  have SDB := Lib.hid (fun W => specScope aB zB cB LB CB W)
  have PDA := Lib.hid (fun W => specPolicy aA zA cA LA CA W)
  have PDB := Lib.hid (fun W => specPolicy aB zB cB LB CB W)
  have WDA : Hid (∀ W, HoldsB W aA zA → Calls Tryd.prog 20 #[.slice aA zA.length cA] W (WideEnd' (wide zA) W)) := fun W h => wide_any aA zA cA LA CA W h
  have WDB : Hid (∀ W, HoldsB W aB zB → Calls Tryd.prog 20 #[.slice aB zB.length cB] W (WideEnd' (wide zB) W)) := fun W h => wide_any aB zB cB LB CB W h
  have WSA : Hid (∀ W, HoldsB W aA' yA → Calls Tryd.prog 20 #[.slice aA' yA.length cA'] W (WideEnd' (wide yA) W)) := fun W h => wide_any aA' yA cA' MA CA' W h
  have WSB : Hid (∀ W, HoldsB W aB' yB → Calls Tryd.prog 20 #[.slice aB' yB.length cB'] W (WideEnd' (wide yB) W)) := fun W h => wide_any aB' yB cB' MB CB' W h
  have SSA := Lib.hid (scope16 (wide yA) (wide_len MA))
  have SSB := Lib.hid (scope16 (wide yB) (wide_len MB))
  have PSA := Lib.hid (policy16 (wide yA) (wide_len MA))
  have PSB := Lib.hid (policy16 (wide yB) (wide_len MB))
  have FDA := Lib.hid (four16is (wide zA) (wide_len LA))
  have FDB := Lib.hid (four16is (wide zB) (wide_len LB))
  have FSA := Lib.hid (four16is (wide yA) (wide_len MA))
  have FSB := Lib.hid (four16is (wide yB) (wide_len MB))
  have CMA := Lib.hid (common16 (wide yA) (wide zA) (wide_len MA) (wide_len LA))
  have CMB := Lib.hid (common16 (wide yB) (wide zB) (wide_len MB) (wide_len LB))
  rw [hf1] at FDA
  rw [hf2] at FDB
  rw [hf3] at FSA
  rw [hf4] at FSB
  rw [← hnA] at SDA PDA WDA
  rw [← hnB] at SDB PDB WDB
  rw [← hmA] at WSA
  rw [← hmB] at WSB
  generalize (polAt (sHit (wide zA)) 9).2.1 = pA at *
  generalize (polAt (sHit (wide zA)) 9).2.2 = lA at *
  generalize (polAt (sHit (wide zB)) 9).2.1 = pB at *
  generalize (polAt (sHit (wide zB)) 9).2.2 = lB at *
  generalize (polAt (sHit (wide yA)) 9).2.1 = pA' at *
  generalize (polAt (sHit (wide yA)) 9).2.2 = lA' at *
  generalize (polAt (sHit (wide yB)) 9).2.1 = pB' at *
  generalize (polAt (sHit (wide yB)) 9).2.2 = lB' at *
  generalize scopeS (wide zA) = sA at *
  generalize scopeS (wide zB) = sB at *
  generalize scopeS (wide yA) = sA' at *
  generalize scopeS (wide yB) = sB' at *
  obtain ⟨mmA, hmmA⟩ : ∃ x, x = (cplN (wide yA) (wide zA) : Int) := ⟨_, rfl⟩
  obtain ⟨mmB, hmmB⟩ : ∃ x, x = (cplN (wide yB) (wide zB) : Int) := ⟨_, rfl⟩
  rw [← hmmA] at CMA h9
  rw [← hmmB] at CMB h9
  generalize wide zA = wzA at *
  generalize wide zB = wzB at *
  generalize wide yA = wyA at *
  generalize wide yB = wyB at *
  have HK := Lib.hid hRK
  have HdA := Lib.hid HA
  have HdB := Lib.hid HB
  have HsA := Lib.hid HA'
  have HsB := Lib.hid HB'
  have B := Lib.hid (Below.refl w.heap.size w)
  have one := one_any
  have H2 := Lib.hid h2
  have H5 := Lib.hid h5
  have H6 := Lib.hid h6
  have H8 := Lib.hid h8
  have H9 := Lib.hid h9
  clear HA HA' HB HB' hRK LA LB MA MB CA CA' CB CB' hnA hnB hmA hmB hmmA hmmB hf1 hf2 hf3 hf4 h2 h5 h6 h8 h9
  go_enter Tryd.func26, Tryd.ntmps26
  go_wp2_with fail
  refine (WSA.out _ HsA.out).mono ?_
  rintro e v1 ⟨waa, wac, rfl, wal, wah, hb⟩
  replace HdA := Lib.hid (HdA.out.below hb)
  replace HdB := Lib.hid (HdB.out.below hb)
  replace HsA := Lib.hid (HsA.out.below hb)
  replace HsB := Lib.hid (HsB.out.below hb)
  replace B := Lib.hid (B.out.trans (hb.mono B.out.size))
  clear hb
  have Hwa := Lib.hid wah
  clear wah
  go_wp2_with fail
  refine (WSB.out _ HsB.out).mono ?_
  rintro e v2 ⟨wba, wbc, rfl, wbl, wbh, hb⟩
  replace HdA := Lib.hid (HdA.out.below hb)
  replace HdB := Lib.hid (HdB.out.below hb)
  replace HsA := Lib.hid (HsA.out.below hb)
  replace HsB := Lib.hid (HsB.out.below hb)
  replace Hwa := Lib.hid (Hwa.out.below hb)
  replace B := Lib.hid (B.out.trans (hb.mono B.out.size))
  clear hb
  have Hwb := Lib.hid wbh
  clear wbh
  go_wp2_with fail
  refine (SDA.out _ HdA.out).mono ?_
  rintro e v3 ⟨rfl, hb⟩
  replace HdA := Lib.hid (HdA.out.below hb)
  replace HdB := Lib.hid (HdB.out.below hb)
  replace HsA := Lib.hid (HsA.out.below hb)
  replace HsB := Lib.hid (HsB.out.below hb)
  replace Hwa := Lib.hid (Hwa.out.below hb)
  replace Hwb := Lib.hid (Hwb.out.below hb)
  replace B := Lib.hid (B.out.trans (hb.mono B.out.size))
  clear hb
  go_wp2_with fail
  refine (SSA.out _ _ wal _ Hwa.out).mono ?_
  rintro e v4 ⟨rfl, hb⟩
  replace HdA := Lib.hid (HdA.out.below hb)
  replace HdB := Lib.hid (HdB.out.below hb)
  replace HsA := Lib.hid (HsA.out.below hb)
  replace HsB := Lib.hid (HsB.out.below hb)
  replace Hwa := Lib.hid (Hwa.out.below hb)
  replace Hwb := Lib.hid (Hwb.out.below hb)
  replace B := Lib.hid (B.out.trans (hb.mono B.out.size))
  clear hb
  go_wp2_with fail
  refine (one_any _ _).mono ?_
  rintro e w' ⟨rfl, rfl⟩
  go_wp2_with fail
  refine (SDB.out _ HdB.out).mono ?_
  rintro e v5 ⟨rfl, hb⟩
  replace HdA := Lib.hid (HdA.out.below hb)
  replace HdB := Lib.hid (HdB.out.below hb)
  replace HsA := Lib.hid (HsA.out.below hb)
  replace HsB := Lib.hid (HsB.out.below hb)
  replace Hwa := Lib.hid (Hwa.out.below hb)
  replace Hwb := Lib.hid (Hwb.out.below hb)
  replace B := Lib.hid (B.out.trans (hb.mono B.out.size))
  clear hb
  go_wp2_with fail
  refine (SSB.out _ _ wbl _ Hwb.out).mono ?_
  rintro e v6 ⟨rfl, hb⟩
  replace HdA := Lib.hid (HdA.out.below hb)
  replace HdB := Lib.hid (HdB.out.below hb)
  replace HsA := Lib.hid (HsA.out.below hb)
  replace HsB := Lib.hid (HsB.out.below hb)
  replace Hwa := Lib.hid (Hwa.out.below hb)
  replace Hwb := Lib.hid (Hwb.out.below hb)
  replace B := Lib.hid (B.out.trans (hb.mono B.out.size))
  clear hb
  go_wp2_with fail
  refine (one_any _ _).mono ?_
  rintro e w' ⟨rfl, rfl⟩
  go_wp2_with fail
  refine (prefer_any _ _ _).mono ?_
  rintro e w' ⟨rfl, rfl⟩
  rw [H2.out]
  rcases hqq2 : (r2 != 0) with _ | _
  rotate_left
  · have q2 : (r2 != 0) = true := hqq2
    go_wp2_with fail
    go_ret2
    have hk := HK.out
    rw [specV, q2] at hk
    have hk' : (R, K) = (r2, 2) := hk
    obtain ⟨rfl, rfl⟩ := Prod.mk.inj hk'
    exact ⟨rfl, B.out⟩
  have q2 : (r2 != 0) = false := hqq2
  go_wp2_with fail
  refine (PDA.out _ HdA.out).mono ?_
  rintro e v7 ⟨rfl, hb⟩
  replace HdA := Lib.hid (HdA.out.below hb)
  replace HdB := Lib.hid (HdB.out.below hb)
  replace HsA := Lib.hid (HsA.out.below hb)
  replace HsB := Lib.hid (HsB.out.below hb)
  replace Hwa := Lib.hid (Hwa.out.below hb)
  replace Hwb := Lib.hid (Hwb.out.below hb)
  replace B := Lib.hid (B.out.trans (hb.mono B.out.size))
  clear hb
  go_wp2_with fail
  refine (PDB.out _ HdB.out).mono ?_
  rintro e v8 ⟨rfl, hb⟩
  replace HdA := Lib.hid (HdA.out.below hb)
  replace HdB := Lib.hid (HdB.out.below hb)
  replace HsA := Lib.hid (HsA.out.below hb)
  replace HsB := Lib.hid (HsB.out.below hb)
  replace Hwa := Lib.hid (Hwa.out.below hb)
  replace Hwb := Lib.hid (Hwb.out.below hb)
  replace B := Lib.hid (B.out.trans (hb.mono B.out.size))
  clear hb
  go_wp2_with fail
  refine (PSA.out _ _ wal _ Hwa.out).mono ?_
  rintro e v9 ⟨rfl, hb⟩
  replace HdA := Lib.hid (HdA.out.below hb)
  replace HdB := Lib.hid (HdB.out.below hb)
  replace HsA := Lib.hid (HsA.out.below hb)
  replace HsB := Lib.hid (HsB.out.below hb)
  replace Hwa := Lib.hid (Hwa.out.below hb)
  replace Hwb := Lib.hid (Hwb.out.below hb)
  replace B := Lib.hid (B.out.trans (hb.mono B.out.size))
  clear hb
  go_wp2_with fail
  refine (PSB.out _ _ wbl _ Hwb.out).mono ?_
  rintro e v10 ⟨rfl, hb⟩
  replace HdA := Lib.hid (HdA.out.below hb)
  replace HdB := Lib.hid (HdB.out.below hb)
  replace HsA := Lib.hid (HsA.out.below hb)
  replace HsB := Lib.hid (HsB.out.below hb)
  replace Hwa := Lib.hid (Hwa.out.below hb)
  replace Hwb := Lib.hid (Hwb.out.below hb)
  replace B := Lib.hid (B.out.trans (hb.mono B.out.size))
  clear hb
  go_wp2_with fail
  refine (one_any _ _).mono ?_
  rintro e w' ⟨rfl, rfl⟩
  go_wp2_with fail
  refine (one_any _ _).mono ?_
  rintro e w' ⟨rfl, rfl⟩
  go_wp2_with fail
  refine (prefer_any _ _ _).mono ?_
  rintro e w' ⟨rfl, rfl⟩
  rw [H5.out]
  rcases hqq5 : (r5 != 0) with _ | _
  rotate_left
  · have q5 : (r5 != 0) = true := hqq5
    go_wp2_with fail
    go_ret2
    have hk := HK.out
    rw [specV, q2, q5] at hk
    have hk' : (R, K) = (r5, 5) := hk
    obtain ⟨rfl, rfl⟩ := Prod.mk.inj hk'
    exact ⟨rfl, B.out⟩
  have q5 : (r5 != 0) = false := hqq5
  go_wp2_with fail
  refine (prefer_any _ _ _).mono ?_
  rintro e w' ⟨rfl, rfl⟩
  rw [H6.out]
  rcases hqq6 : (r6 != 0) with _ | _
  rotate_left
  · have q6 : (r6 != 0) = true := hqq6
    go_wp2_with fail
    go_ret2
    have hk := HK.out
    rw [specV, q2, q5, q6] at hk
    have hk' : (R, K) = (r6, 6) := hk
    obtain ⟨rfl, rfl⟩ := Prod.mk.inj hk'
    exact ⟨rfl, B.out⟩
  have q6 : (r6 != 0) = false := hqq6
  go_wp2_with fail
  refine (SDB.out _ HdB.out).mono ?_
  rintro e v11 ⟨rfl, hb⟩
  replace HdA := Lib.hid (HdA.out.below hb)
  replace HdB := Lib.hid (HdB.out.below hb)
  replace HsA := Lib.hid (HsA.out.below hb)
  replace HsB := Lib.hid (HsB.out.below hb)
  replace Hwa := Lib.hid (Hwa.out.below hb)
  replace Hwb := Lib.hid (Hwb.out.below hb)
  replace B := Lib.hid (B.out.trans (hb.mono B.out.size))
  clear hb
  go_wp2_with fail
  refine (SDA.out _ HdA.out).mono ?_
  rintro e v12 ⟨rfl, hb⟩
  replace HdA := Lib.hid (HdA.out.below hb)
  replace HdB := Lib.hid (HdB.out.below hb)
  replace HsA := Lib.hid (HsA.out.below hb)
  replace HsB := Lib.hid (HsB.out.below hb)
  replace Hwa := Lib.hid (Hwa.out.below hb)
  replace Hwb := Lib.hid (Hwb.out.below hb)
  replace B := Lib.hid (B.out.trans (hb.mono B.out.size))
  clear hb
  go_wp2_with fail
  refine (prefer_any _ _ _).mono ?_
  rintro e w' ⟨rfl, rfl⟩
  rw [H8.out]
  rcases hqq8 : (r8 != 0) with _ | _
  rotate_left
  · have q8 : (r8 != 0) = true := hqq8
    go_wp2_with fail
    go_ret2
    have hk := HK.out
    rw [specV, q2, q5, q6, q8] at hk
    have hk' : (R, K) = (r8, 8) := hk
    obtain ⟨rfl, rfl⟩ := Prod.mk.inj hk'
    exact ⟨rfl, B.out⟩
  have q8 : (r8 != 0) = false := hqq8
  go_wp2_with fail
  refine (WDA.out _ HdA.out).mono ?_
  rintro e v13 ⟨xaa, xac, rfl, xal, xah, hb⟩
  replace HdA := Lib.hid (HdA.out.below hb)
  replace HdB := Lib.hid (HdB.out.below hb)
  replace HsA := Lib.hid (HsA.out.below hb)
  replace HsB := Lib.hid (HsB.out.below hb)
  replace Hwa := Lib.hid (Hwa.out.below hb)
  replace Hwb := Lib.hid (Hwb.out.below hb)
  replace B := Lib.hid (B.out.trans (hb.mono B.out.size))
  clear hb
  have Hxa := Lib.hid xah
  clear xah
  go_wp2_with fail
  refine (WDB.out _ HdB.out).mono ?_
  rintro e v14 ⟨xba, xbc, rfl, xbl, xbh, hb⟩
  replace HdA := Lib.hid (HdA.out.below hb)
  replace HdB := Lib.hid (HdB.out.below hb)
  replace HsA := Lib.hid (HsA.out.below hb)
  replace HsB := Lib.hid (HsB.out.below hb)
  replace Hwa := Lib.hid (Hwa.out.below hb)
  replace Hwb := Lib.hid (Hwb.out.below hb)
  replace Hxa := Lib.hid (Hxa.out.below hb)
  replace B := Lib.hid (B.out.trans (hb.mono B.out.size))
  clear hb
  have Hxb := Lib.hid xbh
  clear xbh
  cases f1
  rotate_left
  · skip
    go_wp2_with fail
    refine (FDA.out _ _ _ Hxa.out).mono ?_
    rintro e v15 ⟨rfl, hb⟩
    replace HdA := Lib.hid (HdA.out.below hb)
    replace HdB := Lib.hid (HdB.out.below hb)
    replace HsA := Lib.hid (HsA.out.below hb)
    replace HsB := Lib.hid (HsB.out.below hb)
    replace Hwa := Lib.hid (Hwa.out.below hb)
    replace Hwb := Lib.hid (Hwb.out.below hb)
    replace Hxa := Lib.hid (Hxa.out.below hb)
    replace Hxb := Lib.hid (Hxb.out.below hb)
    replace B := Lib.hid (B.out.trans (hb.mono B.out.size))
    clear hb
    go_wp2_with fail
    go_ret2
    have hk := HK.out
    rw [specV, q2, q5, q6, q8] at hk
    have hk' : (R, K) = (0, 10) := hk
    obtain ⟨rfl, rfl⟩ := Prod.mk.inj hk'
    exact ⟨rfl, B.out⟩
  go_wp2_with fail
  refine (FDA.out _ _ _ Hxa.out).mono ?_
  rintro e v16 ⟨rfl, hb⟩
  replace HdA := Lib.hid (HdA.out.below hb)
  replace HdB := Lib.hid (HdB.out.below hb)
  replace HsA := Lib.hid (HsA.out.below hb)
  replace HsB := Lib.hid (HsB.out.below hb)
  replace Hwa := Lib.hid (Hwa.out.below hb)
  replace Hwb := Lib.hid (Hwb.out.below hb)
  replace Hxa := Lib.hid (Hxa.out.below hb)
  replace Hxb := Lib.hid (Hxb.out.below hb)
  replace B := Lib.hid (B.out.trans (hb.mono B.out.size))
  clear hb
  cases f2
  rotate_left
  · skip
    go_wp2_with fail
    refine (FDB.out _ _ _ Hxb.out).mono ?_
    rintro e v17 ⟨rfl, hb⟩
    replace HdA := Lib.hid (HdA.out.below hb)
    replace HdB := Lib.hid (HdB.out.below hb)
    replace HsA := Lib.hid (HsA.out.below hb)
    replace HsB := Lib.hid (HsB.out.below hb)
    replace Hwa := Lib.hid (Hwa.out.below hb)
    replace Hwb := Lib.hid (Hwb.out.below hb)
    replace Hxa := Lib.hid (Hxa.out.below hb)
    replace Hxb := Lib.hid (Hxb.out.below hb)
    replace B := Lib.hid (B.out.trans (hb.mono B.out.size))
    clear hb
    go_wp2_with fail
    go_ret2
    have hk := HK.out
    rw [specV, q2, q5, q6, q8] at hk
    have hk' : (R, K) = (0, 10) := hk
    obtain ⟨rfl, rfl⟩ := Prod.mk.inj hk'
    exact ⟨rfl, B.out⟩
  go_wp2_with fail
  refine (FDB.out _ _ _ Hxb.out).mono ?_
  rintro e v18 ⟨rfl, hb⟩
  replace HdA := Lib.hid (HdA.out.below hb)
  replace HdB := Lib.hid (HdB.out.below hb)
  replace HsA := Lib.hid (HsA.out.below hb)
  replace HsB := Lib.hid (HsB.out.below hb)
  replace Hwa := Lib.hid (Hwa.out.below hb)
  replace Hwb := Lib.hid (Hwb.out.below hb)
  replace Hxa := Lib.hid (Hxa.out.below hb)
  replace Hxb := Lib.hid (Hxb.out.below hb)
  replace B := Lib.hid (B.out.trans (hb.mono B.out.size))
  clear hb
  cases f3
  · skip
    go_wp2_with fail
    refine (FSA.out _ _ _ Hwa.out).mono ?_
    rintro e v19 ⟨rfl, hb⟩
    replace HdA := Lib.hid (HdA.out.below hb)
    replace HdB := Lib.hid (HdB.out.below hb)
    replace HsA := Lib.hid (HsA.out.below hb)
    replace HsB := Lib.hid (HsB.out.below hb)
    replace Hwa := Lib.hid (Hwa.out.below hb)
    replace Hwb := Lib.hid (Hwb.out.below hb)
    replace Hxa := Lib.hid (Hxa.out.below hb)
    replace Hxb := Lib.hid (Hxb.out.below hb)
    replace B := Lib.hid (B.out.trans (hb.mono B.out.size))
    clear hb
    go_wp2_with fail
    refine (CMA.out _ _ _ _ _ Hwa.out Hxa.out).mono ?_
    rintro e v20 ⟨rfl, hb⟩
    replace HdA := Lib.hid (HdA.out.below hb)
    replace HdB := Lib.hid (HdB.out.below hb)
    replace HsA := Lib.hid (HsA.out.below hb)
    replace HsB := Lib.hid (HsB.out.below hb)
    replace Hwa := Lib.hid (Hwa.out.below hb)
    replace Hwb := Lib.hid (Hwb.out.below hb)
    replace Hxa := Lib.hid (Hxa.out.below hb)
    replace Hxb := Lib.hid (Hxb.out.below hb)
    replace B := Lib.hid (B.out.trans (hb.mono B.out.size))
    clear hb
    cases f4
    · skip
      go_wp2_with fail
      refine (FSB.out _ _ _ Hwb.out).mono ?_
      rintro e v21 ⟨rfl, hb⟩
      replace HdA := Lib.hid (HdA.out.below hb)
      replace HdB := Lib.hid (HdB.out.below hb)
      replace HsA := Lib.hid (HsA.out.below hb)
      replace HsB := Lib.hid (HsB.out.below hb)
      replace Hwa := Lib.hid (Hwa.out.below hb)
      replace Hwb := Lib.hid (Hwb.out.below hb)
      replace Hxa := Lib.hid (Hxa.out.below hb)
      replace Hxb := Lib.hid (Hxb.out.below hb)
      replace B := Lib.hid (B.out.trans (hb.mono B.out.size))
      clear hb
      go_wp2_with fail
      refine (CMB.out _ _ _ _ _ Hwb.out Hxb.out).mono ?_
      rintro e v22 ⟨rfl, hb⟩
      replace HdA := Lib.hid (HdA.out.below hb)
      replace HdB := Lib.hid (HdB.out.below hb)
      replace HsA := Lib.hid (HsA.out.below hb)
      replace HsB := Lib.hid (HsB.out.below hb)
      replace Hwa := Lib.hid (Hwa.out.below hb)
      replace Hwb := Lib.hid (Hwb.out.below hb)
      replace Hxa := Lib.hid (Hxa.out.below hb)
      replace Hxb := Lib.hid (Hxb.out.below hb)
      replace B := Lib.hid (B.out.trans (hb.mono B.out.size))
      clear hb
      go_wp2_with fail
      refine (prefer_any _ _ _).mono ?_
      rintro e w' ⟨rfl, rfl⟩
      rw [show prefV mmA mmB = r9 from H9.out]
      rcases hqq9 : (r9 != 0) with _ | _
      rotate_left
      · have q9 : (r9 != 0) = true := hqq9
        go_wp2_with fail
        go_ret2
        have hk := HK.out
        rw [specV, q2, q5, q6, q8, q9] at hk
        have hk' : (R, K) = (r9, 9) := hk
        obtain ⟨rfl, rfl⟩ := Prod.mk.inj hk'
        exact ⟨rfl, B.out⟩
      have q9 : (r9 != 0) = false := hqq9
      go_wp2_with fail
      go_ret2
      have hk := HK.out
      rw [specV, q2, q5, q6, q8, q9] at hk
      have hk' : (R, K) = (0, 10) := hk
      obtain ⟨rfl, rfl⟩ := Prod.mk.inj hk'
      exact ⟨rfl, B.out⟩
    · skip
      go_wp2_with fail
      refine (FSB.out _ _ _ Hwb.out).mono ?_
      rintro e v23 ⟨rfl, hb⟩
      replace HdA := Lib.hid (HdA.out.below hb)
      replace HdB := Lib.hid (HdB.out.below hb)
      replace HsA := Lib.hid (HsA.out.below hb)
      replace HsB := Lib.hid (HsB.out.below hb)
      replace Hwa := Lib.hid (Hwa.out.below hb)
      replace Hwb := Lib.hid (Hwb.out.below hb)
      replace Hxa := Lib.hid (Hxa.out.below hb)
      replace Hxb := Lib.hid (Hxb.out.below hb)
      replace B := Lib.hid (B.out.trans (hb.mono B.out.size))
      clear hb
      go_wp2_with fail
      refine (prefer_any _ _ _).mono ?_
      rintro e w' ⟨rfl, rfl⟩
      rw [show prefV mmA 0 = r9 from H9.out]
      rcases hqq9 : (r9 != 0) with _ | _
      rotate_left
      · have q9 : (r9 != 0) = true := hqq9
        go_wp2_with fail
        go_ret2
        have hk := HK.out
        rw [specV, q2, q5, q6, q8, q9] at hk
        have hk' : (R, K) = (r9, 9) := hk
        obtain ⟨rfl, rfl⟩ := Prod.mk.inj hk'
        exact ⟨rfl, B.out⟩
      have q9 : (r9 != 0) = false := hqq9
      go_wp2_with fail
      go_ret2
      have hk := HK.out
      rw [specV, q2, q5, q6, q8, q9] at hk
      have hk' : (R, K) = (0, 10) := hk
      obtain ⟨rfl, rfl⟩ := Prod.mk.inj hk'
      exact ⟨rfl, B.out⟩
  · skip
    go_wp2_with fail
    refine (FSA.out _ _ _ Hwa.out).mono ?_
    rintro e v24 ⟨rfl, hb⟩
    replace HdA := Lib.hid (HdA.out.below hb)
    replace HdB := Lib.hid (HdB.out.below hb)
    replace HsA := Lib.hid (HsA.out.below hb)
    replace HsB := Lib.hid (HsB.out.below hb)
    replace Hwa := Lib.hid (Hwa.out.below hb)
    replace Hwb := Lib.hid (Hwb.out.below hb)
    replace Hxa := Lib.hid (Hxa.out.below hb)
    replace Hxb := Lib.hid (Hxb.out.below hb)
    replace B := Lib.hid (B.out.trans (hb.mono B.out.size))
    clear hb
    cases f4
    · skip
      go_wp2_with fail
      refine (FSB.out _ _ _ Hwb.out).mono ?_
      rintro e v25 ⟨rfl, hb⟩
      replace HdA := Lib.hid (HdA.out.below hb)
      replace HdB := Lib.hid (HdB.out.below hb)
      replace HsA := Lib.hid (HsA.out.below hb)
      replace HsB := Lib.hid (HsB.out.below hb)
      replace Hwa := Lib.hid (Hwa.out.below hb)
      replace Hwb := Lib.hid (Hwb.out.below hb)
      replace Hxa := Lib.hid (Hxa.out.below hb)
      replace Hxb := Lib.hid (Hxb.out.below hb)
      replace B := Lib.hid (B.out.trans (hb.mono B.out.size))
      clear hb
      go_wp2_with fail
      refine (CMB.out _ _ _ _ _ Hwb.out Hxb.out).mono ?_
      rintro e v26 ⟨rfl, hb⟩
      replace HdA := Lib.hid (HdA.out.below hb)
      replace HdB := Lib.hid (HdB.out.below hb)
      replace HsA := Lib.hid (HsA.out.below hb)
      replace HsB := Lib.hid (HsB.out.below hb)
      replace Hwa := Lib.hid (Hwa.out.below hb)
      replace Hwb := Lib.hid (Hwb.out.below hb)
      replace Hxa := Lib.hid (Hxa.out.below hb)
      replace Hxb := Lib.hid (Hxb.out.below hb)
      replace B := Lib.hid (B.out.trans (hb.mono B.out.size))
      clear hb
      go_wp2_with fail
      refine (prefer_any _ _ _).mono ?_
      rintro e w' ⟨rfl, rfl⟩
      rw [show prefV 0 mmB = r9 from H9.out]
      rcases hqq9 : (r9 != 0) with _ | _
      rotate_left
      · have q9 : (r9 != 0) = true := hqq9
        go_wp2_with fail
        go_ret2
        have hk := HK.out
        rw [specV, q2, q5, q6, q8, q9] at hk
        have hk' : (R, K) = (r9, 9) := hk
        obtain ⟨rfl, rfl⟩ := Prod.mk.inj hk'
        exact ⟨rfl, B.out⟩
      have q9 : (r9 != 0) = false := hqq9
      go_wp2_with fail
      go_ret2
      have hk := HK.out
      rw [specV, q2, q5, q6, q8, q9] at hk
      have hk' : (R, K) = (0, 10) := hk
      obtain ⟨rfl, rfl⟩ := Prod.mk.inj hk'
      exact ⟨rfl, B.out⟩
    · skip
      go_wp2_with fail
      refine (FSB.out _ _ _ Hwb.out).mono ?_
      rintro e v27 ⟨rfl, hb⟩
      replace HdA := Lib.hid (HdA.out.below hb)
      replace HdB := Lib.hid (HdB.out.below hb)
      replace HsA := Lib.hid (HsA.out.below hb)
      replace HsB := Lib.hid (HsB.out.below hb)
      replace Hwa := Lib.hid (Hwa.out.below hb)
      replace Hwb := Lib.hid (Hwb.out.below hb)
      replace Hxa := Lib.hid (Hxa.out.below hb)
      replace Hxb := Lib.hid (Hxb.out.below hb)
      replace B := Lib.hid (B.out.trans (hb.mono B.out.size))
      clear hb
      go_wp2_with fail
      refine (prefer_any _ _ _).mono ?_
      rintro e w' ⟨rfl, rfl⟩
      rw [show prefV 0 0 = r9 from H9.out]
      rcases hqq9 : (r9 != 0) with _ | _
      rotate_left
      · have q9 : (r9 != 0) = true := hqq9
        go_wp2_with fail
        go_ret2
        have hk := HK.out
        rw [specV, q2, q5, q6, q8, q9] at hk
        have hk' : (R, K) = (r9, 9) := hk
        obtain ⟨rfl, rfl⟩ := Prod.mk.inj hk'
        exact ⟨rfl, B.out⟩
      have q9 : (r9 != 0) = false := hqq9
      go_wp2_with fail
      go_ret2
      have hk := HK.out
      rw [specV, q2, q5, q6, q8, q9] at hk
      have hk' : (R, K) = (0, 10) := hk
      obtain ⟨rfl, rfl⟩ := Prod.mk.inj hk'
      exact ⟨rfl, B.out⟩
end Go.Proofs.YtbejikpopealdaaDoor
/-
  spec.Compare, walked where a source is lacking.
-/
namespace Go.Proofs.YtbejikpopealdaaDoor
open Go.RowKit

set_option maxHeartbeats 4000000 in
set_option maxRecDepth 100000 in
theorem specCompare_nn (aA aA' aB aB' : Option Addr) (nA mA nB mB cA cA' cB cB' : Nat) (h4 : mA ≠ 4) (h16 : mA ≠ 16) (k4 : mB ≠ 4) (k16 : mB ≠ 16) (w : World) :
    Calls Tryd.prog 26 #[.slice aA nA cA, .slice aA' mA cA', .slice aB nB cB, .slice aB' mB cB'] w fun e w' => e = .returned (.tuple #[.int .i64 0, .int .i64 1]) ∧ w = w' := by
  have W1 := Lib.hid (fun W => wide_no aA' mA cA' h4 h16 W)
  have W2 := Lib.hid (fun W => wide_no aB' mB cB' k4 k16 W)
  clear h4 h16 k4 k16
  go_enter Tryd.func26, Tryd.ntmps26
  go_wp2_with fail
  refine (W1.out _).mono ?_
  rintro e w1 ⟨rfl, rfl⟩
  go_wp2_with fail
  refine (W2.out _).mono ?_
  rintro e w1 ⟨rfl, rfl⟩
  go_wp2_with fail
  go_ret2
  exact ⟨rfl, rfl⟩

set_option maxHeartbeats 4000000 in
set_option maxRecDepth 100000 in
theorem specCompare_ny (aA aA' aB aB' : Option Addr) (yB : List Int) (nA mA nB cA cA' cB cB' : Nat) (h4 : mA ≠ 4) (h16 : mA ≠ 16) (MB : yB.length = 4 ∨ yB.length = 16) (CB' : yB.length ≤ cB') (w : World) (HB' : HoldsB w aB' yB) :
    Calls Tryd.prog 26 #[.slice aA nA cA, .slice aA' mA cA', .slice aB nB cB, .slice aB' yB.length cB'] w fun e w' => e = .returned (.tuple #[.int .i64 1, .int .i64 1]) ∧ Below w.heap.size w w' := by
  have W1 := Lib.hid (fun W => wide_no aA' mA cA' h4 h16 W)
  have W2 := Lib.hid (show Calls Tryd.prog 20 #[.slice aB' yB.length cB'] w (WideEnd' (wide yB) w) from wide_any aB' yB cB' MB CB' w HB')
  obtain ⟨m, hm⟩ : ∃ m, m = yB.length := ⟨_, rfl⟩
  rw [← hm] at W2 ⊢
  clear h4 h16 MB CB' HB' hm
  go_enter Tryd.func26, Tryd.ntmps26
  go_wp2_with fail
  refine (W1.out _).mono ?_
  rintro e w1 ⟨rfl, rfl⟩
  go_wp2_with fail
  refine W2.out.mono ?_
  rintro e w1 ⟨xa, xc, rfl, _, _, hb⟩
  have HB := Lib.hid hb
  clear hb
  go_wp2_with fail
  refine (one_any _ _).mono ?_
  rintro e w2 ⟨rfl, rfl⟩
  go_wp2_with fail
  refine (one_any _ _).mono ?_
  rintro e w2 ⟨rfl, rfl⟩
  go_wp2_with fail
  refine (prefer_any _ _ _).mono ?_
  rintro e w2 ⟨rfl, rfl⟩
  go_wp2_with fail
  go_ret2
  exact ⟨rfl, HB.out⟩

set_option maxHeartbeats 4000000 in
set_option maxRecDepth 100000 in
theorem specCompare_yn (aA aA' aB aB' : Option Addr) (yA : List Int) (nA nB mB cA cA' cB cB' : Nat) (k4 : mB ≠ 4) (k16 : mB ≠ 16) (MA : yA.length = 4 ∨ yA.length = 16) (CA' : yA.length ≤ cA') (w : World) (HA' : HoldsB w aA' yA) :
    Calls Tryd.prog 26 #[.slice aA nA cA, .slice aA' yA.length cA', .slice aB nB cB, .slice aB' mB cB'] w fun e w' => e = .returned (.tuple #[.int .i64 (-1), .int .i64 1]) ∧ Below w.heap.size w w' := by
  have W1 := Lib.hid (show Calls Tryd.prog 20 #[.slice aA' yA.length cA'] w (WideEnd' (wide yA) w) from wide_any aA' yA cA' MA CA' w HA')
  have W2 := Lib.hid (fun W => wide_no aB' mB cB' k4 k16 W)
  obtain ⟨m, hm⟩ : ∃ m, m = yA.length := ⟨_, rfl⟩
  rw [← hm] at W1 ⊢
  clear k4 k16 MA CA' HA' hm
  go_enter Tryd.func26, Tryd.ntmps26
  go_wp2_with fail
  refine W1.out.mono ?_
  rintro e w1 ⟨xa, xc, rfl, _, _, hb⟩
  have HB := Lib.hid hb
  clear hb
  go_wp2_with fail
  refine (W2.out _).mono ?_
  rintro e w2 ⟨rfl, rfl⟩
  go_wp2_with fail
  refine (one_any _ _).mono ?_
  rintro e w2 ⟨rfl, rfl⟩
  go_wp2_with fail
  refine (one_any _ _).mono ?_
  rintro e w2 ⟨rfl, rfl⟩
  go_wp2_with fail
  refine (prefer_any _ _ _).mono ?_
  rintro e w2 ⟨rfl, rfl⟩
  go_wp2_with fail
  go_ret2
  exact ⟨rfl, HB.out⟩
end Go.Proofs.YtbejikpopealdaaDoor
