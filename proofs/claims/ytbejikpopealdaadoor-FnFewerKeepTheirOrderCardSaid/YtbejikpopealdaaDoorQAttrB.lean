/-
  compareByRFC6724 of the package where a source is lacking, whatever the addresses; the comparison of two destinations as the sort holds them.
-/
import Derived.Test.YtbejikpopealdaaDoorQCmpB
import Derived.Test.YtbejikpopealdaaDoorQPlainI
import Derived.Test.YtbejikpopealdaaDoorQAttr
import Derived.BigQuiet
import Derived.Deep.DeepCutAuto
namespace Go.Proofs.YtbejikpopealdaaDoor
open Go.RowKit

set_option maxHeartbeats 4000000 in
set_option maxRecDepth 100000 in
theorem compare_un (p4 p6 : Addr) (ka kb : Option Bool) (ha1 la1 hb1 lb1 : Int) (ipa zna ipb znb : Value)
    (aS aP aL aT aU aW bS bP bL bT bU bW : Int) (zA zB : Option Addr) (hzA : zA = zp p4 p6 ka) (hzB : zB = zp p4 p6 kb) (R : Int)
    (va vb : Bool) (hva : ka.isSome = va) (hvb : kb.isSome = vb) (hun : (va && vb) = false) (hR : R = if !va && !vb then 0 else if !vb then -1 else 1)
    (w : World) (N : Net p4 p6 w) :
    Calls Tryd.prog 61 #[.agg #[ipa, zna, .int .u8 aS, .int .u8 aP, .int .u8 aL, .int .u64 ha1, .int .u64 la1, .pointer zA, .int .u8 aT, .int .u8 aU, .int .u8 aW],
      .agg #[ipb, znb, .int .u8 bS, .int .u8 bP, .int .u8 bL, .int .u64 hb1, .int .u64 lb1, .pointer zB, .int .u8 bT, .int .u8 bU, .int .u8 bW]] w fun e w' => e = .returned (.int .i64 R) ∧ Gr w w' := by
  have IA := Lib.hid (fun W g => isValid_any p4 p6 ka ha1 la1 W (N.gr (w' := W) g))
  have IB := Lib.hid (fun W g => isValid_any p4 p6 kb hb1 lb1 W (N.gr (w' := W) g))
  rw [hva] at IA
  rw [hvb] at IB
  rw [← hzA] at IA
  rw [← hzB] at IB
  have HR := Lib.hid hR
  have HU := Lib.hid hun
  clear N hR hva hvb hzA hzB hun
  have bx : Hid (∀ W, W = (((w.alloc (.cells #[ipa, zna, .int .u8 aS, .int .u8 aP, .int .u8 aL, .int .u64 ha1, .int .u64 la1, .pointer zA, .int .u8 aT, .int .u8 aU, .int .u8 aW] 97)).alloc (.cells #[ipb, znb, .int .u8 bS, .int .u8 bP, .int .u8 bL, .int .u64 hb1, .int .u64 lb1, .pointer zB, .int .u8 bT, .int .u8 bU, .int .u8 bW] 97)).alloc (.cells #[.int .u64 ha1, .int .u64 la1, .pointer zA] 55)).alloc (.cells #[.int .u64 hb1, .int .u64 lb1, .pointer zB] 55) →
      BoxAll w ipa zna ipb znb (.pointer zA) (.pointer zB) aS aP aL ha1 la1 aT aU aW bS bP bL hb1 lb1 bT bU bW W) := by
    rintro W rfl
    refine ⟨((((Gr.refl w).alloc _).alloc _).alloc _).alloc _, ?_, ?_, ?_, ?_⟩
    · unfold Box11; simp [go_sem]
    · unfold Box11; simp [go_sem]
    · unfold Box3; simp [go_sem]
    · unfold Box3; simp [go_sem]
  go_enter Tryd.func61, Tryd.ntmps61
  go_upto_region 9 with fail
  have X0 := Lib.hid (bx.out _ rfl)
  clear bx
  cases va
  · cases vb
    · skip
      go_wp2_with fail
      refine (IA.out _ X0.out.1).mono ?_
      rintro e w1 ⟨rfl, hg⟩
      have X1 := Lib.hid (X0.out.gr hg)
      clear hg
      obtain ⟨tb1, yb01, yb11, yb21⟩ := X1.out.2.2.2.2
      go_wp2_with fail
      refine (IB.out _ X1.out.1).mono ?_
      rintro e w2 ⟨rfl, hg⟩
      have X2 := Lib.hid (X1.out.gr hg)
      clear hg
      go_wp2_with fail
      go_ret
      exact ⟨by rw [HR.out]; rfl, by repeat (first | exact X2.out.1 | refine Gr.drewN ?_ _ | refine Gr.drew ?_)⟩
    · skip
      go_wp2_with fail
      refine (IA.out _ X0.out.1).mono ?_
      rintro e w1 ⟨rfl, hg⟩
      have X1 := Lib.hid (X0.out.gr hg)
      clear hg
      obtain ⟨tb1, yb01, yb11, yb21⟩ := X1.out.2.2.2.2
      go_wp2_with fail
      refine (IB.out _ X1.out.1).mono ?_
      rintro e w2 ⟨rfl, hg⟩
      have X2 := Lib.hid (X1.out.gr hg)
      clear hg
      obtain ⟨tb2, yb02, yb12, yb22⟩ := X2.out.2.2.2.2
      go_wp2_with fail
      refine (IB.out _ X2.out.1).mono ?_
      rintro e w3 ⟨rfl, hg⟩
      have X3 := Lib.hid (X2.out.gr hg)
      clear hg
      obtain ⟨ta3, ya03, ya13, ya23⟩ := X3.out.2.2.2.1
      go_wp2_with fail
      refine (IA.out _ X3.out.1).mono ?_
      rintro e w4 ⟨rfl, hg⟩
      have X4 := Lib.hid (X3.out.gr hg)
      clear hg
      go_wp2_with fail
      go_ret
      exact ⟨by rw [HR.out]; rfl, by repeat (first | exact X4.out.1 | refine Gr.drewN ?_ _ | refine Gr.drew ?_)⟩
  · cases vb
    · skip
      go_wp2_with fail
      refine (IA.out _ X0.out.1).mono ?_
      rintro e w1 ⟨rfl, hg⟩
      have X1 := Lib.hid (X0.out.gr hg)
      clear hg
      obtain ⟨tb1, yb01, yb11, yb21⟩ := X1.out.2.2.2.2
      go_wp2_with fail
      refine (IB.out _ X1.out.1).mono ?_
      rintro e w2 ⟨rfl, hg⟩
      have X2 := Lib.hid (X1.out.gr hg)
      clear hg
      go_wp2_with fail
      go_ret
      exact ⟨by rw [HR.out]; rfl, by repeat (first | exact X2.out.1 | refine Gr.drewN ?_ _ | refine Gr.drew ?_)⟩
    · exact absurd HU.out (by decide)

/-- A destination in this world. -/
def DstOk (w : World) (r : Dst) : Prop := isB r.2.2.1 = true ∧ r.2.2.1.length ≤ r.2.1 ∧ HoldsB w r.1 r.2.2.1 ∧ ∀ x ∈ r.2.2.2, Byt x
theorem DstOk.gr {w w' : World} {r : Dst} (h : DstOk w r) (g : Gr w w') : DstOk w' r := ⟨h.1, h.2.1, h.2.2.1.gr g, h.2.2.2⟩

theorem cmp_dst (p4 p6 : Addr) (r r' : Dst) (zn zn' : Value) (w : World) (N : Net p4 p6 w) (H : DstOk w r) (H' : DstOk w r') :
    Calls Tryd.prog 61 #[.agg (infoV p4 p6 zn r).toArray, .agg (infoV p4 p6 zn' r').toArray] w fun e w' => e = .returned (.int .i64 (lexB (keyU r.2.2.1 r.2.2.2) (keyU r'.2.2.1 r'.2.2.2))) ∧ Gr w w' := by
  obtain ⟨a, c, z, y⟩ := r
  obtain ⟨a', c', z', y'⟩ := r'
  obtain ⟨h1, h2, h3, h4⟩ := H
  obtain ⟨k1, k2, k3, k4⟩ := H'
  simp only at h1 h2 h3 h4 k1 k2 k3 k4 ⊢
  have lz := isB_len.1 h1
  have lz' := isB_len.1 k1
  cases oy : isB y with
  | true =>
    cases oy' : isB y' with
    | true =>
      have e1 : sc0 y = scB y := if_pos oy
      have e2 : pr0 y = prB y := if_pos oy
      have e3 : lb0 y = lbB y := if_pos oy
      have e1' : sc0 y' = scB y' := if_pos oy'
      have e2' : pr0 y' = prB y' := if_pos oy'
      have e3' : lb0 y' = lbB y' := if_pos oy'
      rw [lexU_yy oy oy', ← cmpB_key h3.1 k3.1 lz lz']
      refine compare_any p4 p6 (famOf y) (famOf y') (hiOf y) (loOf y) (hiOf y') (loOf y') (halves_bd h4) (halves_bd k4) a a' z z' c c' _ _ rfl rfl lz lz' h2 k2 zn zn' (scB z) (prB z) (lbB z) (sc0 y) (pr0 y) (lb0 y) (scB z') (prB z') (lbB z') (sc0 y') (pr0 y') (lb0 y') _ _ rfl rfl _
        _ _ _ _ _ _ _ _ _ _ _ _ _ _ rfl rfl rfl rfl rfl rfl rfl rfl rfl rfl rfl rfl rfl rfl ?_ w N h3 k3
      rw [fam_is, fam_is, oy, oy', e1, e3, e1', e3']
      rfl
    | false =>
      rw [lexU_yn oy oy']
      exact compare_un p4 p6 (famOf y) (famOf y') (hiOf y) (loOf y) (hiOf y') (loOf y') _ zn _ zn' (scB z) (prB z) (lbB z) (sc0 y) (pr0 y) (lb0 y) (scB z') (prB z') (lbB z') (sc0 y') (pr0 y') (lb0 y') _ _ rfl rfl _ true false ((fam_is y).trans oy) ((fam_is y').trans oy') rfl rfl w N
  | false =>
    cases oy' : isB y' with
    | true =>
      rw [lexU_ny oy oy']
      exact compare_un p4 p6 (famOf y) (famOf y') (hiOf y) (loOf y) (hiOf y') (loOf y') _ zn _ zn' (scB z) (prB z) (lbB z) (sc0 y) (pr0 y) (lb0 y) (scB z') (prB z') (lbB z') (sc0 y') (pr0 y') (lb0 y') _ _ rfl rfl _ false true ((fam_is y).trans oy) ((fam_is y').trans oy') rfl rfl w N
    | false =>
      rw [lexU_nn oy oy']
      exact compare_un p4 p6 (famOf y) (famOf y') (hiOf y) (loOf y) (hiOf y') (loOf y') _ zn _ zn' (scB z) (prB z) (lbB z) (sc0 y) (pr0 y) (lb0 y) (scB z') (prB z') (lbB z') (sc0 y') (pr0 y') (lb0 y') _ _ rfl rfl _ false false ((fam_is y).trans oy) ((fam_is y').trans oy') rfl rfl w N

/-- The comparison, at whatever two indices. -/
theorem cmp_enc (p4 p6 : Addr) (zn : Nat → Value) (I : List Dst) (x y : Nat) (w : World) (N : Net p4 p6 w) (H : ∀ r ∈ I, DstOk w r) :
    Calls Tryd.prog 61 #[.agg (encS p4 p6 zn I x).toArray, .agg (encS p4 p6 zn I y).toArray] w fun e w' => e = .returned (.int .i64 (cfI I x y)) ∧ Gr w w' := by
  unfold encS cfI keyI
  cases hx : I[x]? with
  | some r =>
    cases hy : I[y]? with
    | some r' => exact cmp_dst p4 p6 r r' (zn x) (zn y) w N (H r (List.mem_of_getElem? hx)) (H r' (List.mem_of_getElem? hy))
    | none =>
      obtain ⟨a, c, z, y1⟩ := r
      simp only
      cases oy : isB y1 with
      | true =>
        rw [keyU_yes oy]
        exact compare_un p4 p6 (famOf y1) none (hiOf y1) (loOf y1) 0 0 _ (zn x) _ _ (scB z) (prB z) (lbB z) (sc0 y1) (pr0 y1) (lb0 y1) 0 0 0 0 0 0 _ _ rfl rfl _ true false ((fam_is y1).trans oy) rfl rfl rfl w N
      | false =>
        rw [keyU_no oy]
        exact compare_un p4 p6 (famOf y1) none (hiOf y1) (loOf y1) 0 0 _ (zn x) _ _ (scB z) (prB z) (lbB z) (sc0 y1) (pr0 y1) (lb0 y1) 0 0 0 0 0 0 _ _ rfl rfl _ false false ((fam_is y1).trans oy) rfl rfl rfl w N
  | none =>
    cases hy : I[y]? with
    | some r' =>
      obtain ⟨a, c, z, y1⟩ := r'
      simp only
      cases oy : isB y1 with
      | true =>
        rw [keyU_yes oy]
        exact compare_un p4 p6 none (famOf y1) 0 0 (hiOf y1) (loOf y1) _ _ _ (zn y) 0 0 0 0 0 0 (scB z) (prB z) (lbB z) (sc0 y1) (pr0 y1) (lb0 y1) _ _ rfl rfl _ false true rfl ((fam_is y1).trans oy) rfl rfl w N
      | false =>
        rw [keyU_no oy]
        exact compare_un p4 p6 none (famOf y1) 0 0 (hiOf y1) (loOf y1) _ _ _ (zn y) 0 0 0 0 0 0 (scB z) (prB z) (lbB z) (sc0 y1) (pr0 y1) (lb0 y1) _ _ rfl rfl _ false false rfl ((fam_is y1).trans oy) rfl rfl w N
    | none =>
      exact compare_un p4 p6 none none 0 0 0 0 _ _ _ _ 0 0 0 0 0 0 0 0 0 0 0 0 _ _ rfl rfl _ false false rfl rfl rfl rfl w N
end Go.Proofs.YtbejikpopealdaaDoor
/-
  ipAttrOf at an address with these bytes, or at none: its numbers by the plain words.
-/
namespace Go.Proofs.YtbejikpopealdaaDoor
open Go.RowKit

theorem attr_any (p4 p6 : Addr) (y : List Int) (hb : ∀ x ∈ y, Byt x) (w : World) (N : Net p4 p6 w) :
    Calls Tryd.prog 59 #[.agg #[.int .u64 (hiOf y), .int .u64 (loOf y), .pointer (zp p4 p6 (famOf y))]] w fun e w' => e = .returned (.agg #[.int .u8 (sc0 y), .int .u8 (pr0 y), .int .u8 (lb0 y)]) ∧ Gr w w' := by
  cases oy : isB y with
  | true =>
    have ly := isB_len.1 oy
    obtain ⟨b1, b2, b3, b4⟩ := halves_bd hb
    refine (ipAttr_some p4 p6 (famOf y) (famOf_some ly) (hiOf y) (loOf y) b1 b2 b3 b4 w N).mono ?_
    rintro e w' ⟨⟨tp, tla, HF, rfl⟩, hg⟩
    have hp := policy_eq hb ly HF.out
    have e1 : sc0 y = scopeV (famOf y) (hiOf y) (loOf y) := by rw [scope_eq hb ly]; exact if_pos oy
    have e2 : pr0 y = tp := by unfold pr0; rw [if_pos oy]; exact congrArg Prod.fst hp
    have e3 : lb0 y = tla := by unfold lb0; rw [if_pos oy]; exact congrArg Prod.snd hp
    rw [e1, e2, e3]
    exact ⟨rfl, hg⟩
  | false =>
    have e1 : sc0 y = 0 := if_neg (by rw [oy]; decide)
    have e2 : pr0 y = 0 := if_neg (by rw [oy]; decide)
    have e3 : lb0 y = 0 := if_neg (by rw [oy]; decide)
    have hk : famOf y = none := by
      have := fam_is y
      rw [oy] at this
      cases h : famOf y with
      | none => rfl
      | some b => rw [h] at this; cases this
    rw [e1, e2, e3, hk]
    exact ipAttr_none p4 p6 _ _ w N
end Go.Proofs.YtbejikpopealdaaDoor
