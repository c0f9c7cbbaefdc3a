/-
  compareByRFC6724 of the package, walked: the rules' tests, in their order.
-/
import Derived.Test.YtbejikpopealdaaDoorQCmpA
import Derived.BigQuiet
import Derived.Deep.DeepCutAuto
namespace Go.Proofs.YtbejikpopealdaaDoor
open Go.RowKit

theorem nil59 (W : World) : (binOp .eql 59 (.slice none 0 0) (.slice none 0 0)).run Tryd.prog W = .ok (.bool true) W := by kernel_rfl
theorem some59 (b off n c : Nat) (W : World) : (binOp .eql 59 (.slice (some ⟨b, off, none⟩) n c) (.slice none 0 0)).run Tryd.prog W = .ok (.bool false) W := by kernel_rfl

/-- The boxes of the call, in a world. -/
def BoxAll (w : World) (ipa zna ipb znb zA zB : Value) (aS aP aL ha1 la1 aT aU aW bS bP bL hb1 lb1 bT bU bW : Int) (W : World) : Prop :=
  Gr w W ∧ Box11 W w.heap.size ipa zna aS aP aL ha1 la1 zA aT aU aW ∧ Box11 W (w.heap.size + 1) ipb znb bS bP bL hb1 lb1 zB bT bU bW ∧ Box3 W (w.heap.size + 1 + 1) ha1 la1 zA ∧ Box3 W (w.heap.size + 1 + 1 + 1) hb1 lb1 zB
theorem BoxAll.gr {w W W' : World} {ipa zna ipb znb zA zB : Value} {aS aP aL ha1 la1 aT aU aW bS bP bL hb1 lb1 bT bU bW : Int} (h : BoxAll w ipa zna ipb znb zA zB aS aP aL ha1 la1 aT aU aW bS bP bL hb1 lb1 bT bU bW W) (g : Gr W W') :
    BoxAll w ipa zna ipb znb zA zB aS aP aL ha1 la1 aT aU aW bS bP bL hb1 lb1 bT bU bW W' :=
  ⟨h.1.trans g, h.2.1.gr g, h.2.2.1.gr g, h.2.2.2.1.gr g, h.2.2.2.2.gr g⟩

set_option maxHeartbeats 20000000 in
set_option maxRecDepth 100000 in
theorem compare_any (p4 p6 : Addr) (ka kb : Option Bool) (ha1 la1 hb1 lb1 : Int) (V1 : 0 ≤ ha1 ∧ ha1 < 18446744073709551616 ∧ 0 ≤ la1 ∧ la1 < 18446744073709551616) (V2 : 0 ≤ hb1 ∧ hb1 < 18446744073709551616 ∧ 0 ≤ lb1 ∧ lb1 < 18446744073709551616)
    (aa ab : Option Addr) (za zb : List Int) (ca cb na nb : Nat) (hna : na = za.length) (hnb : nb = zb.length) (La : za.length = 4 ∨ za.length = 16) (Lb : zb.length = 4 ∨ zb.length = 16) (Ca : za.length ≤ ca) (Cb : zb.length ≤ cb) (zna znb : Value)
    (aS aP aL aT aU aW bS bP bL bT bU bW : Int) (zA zB : Option Addr) (hzA : zA = zp p4 p6 ka) (hzB : zB = zp p4 p6 kb) (R : Int)
    (va vb e1 e2 l1 l2 pg pl sl sg f1 f2 cg cl : Bool) (hva : ka.isSome = va) (hvb : kb.isSome = vb) (he1 : (aS == aT) = e1) (he2 : (bS == bT) = e2) (hl1 : (aW == aL) = l1) (hl2 : (bW == bL) = l2)
    (hpg : decide (bP < aP) = pg) (hpl : decide (aP < bP) = pl) (hsl : decide (aS < bS) = sl) (hsg : decide (bS < aS) = sg) (hf1 : fourB za = f1) (hf2 : fourB zb = f2)
    (hcg : decide (cplK kb hb1 lb1 zb < cplK ka ha1 la1 za) = cg) (hcl : decide (cplK ka ha1 la1 za < cplK kb hb1 lb1 zb) = cl)
    (hR : R = cmpV va vb e1 e2 l1 l2 pg pl sl sg (!f1 && !f2) cg cl)
    (w : World) (N : Net p4 p6 w) (Ha : HoldsB w aa za) (Hb : HoldsB w ab zb) :
    Calls Tryd.prog 61 #[.agg #[.slice aa na ca, zna, .int .u8 aS, .int .u8 aP, .int .u8 aL, .int .u64 ha1, .int .u64 la1, .pointer zA, .int .u8 aT, .int .u8 aU, .int .u8 aW],
      .agg #[.slice ab nb cb, znb, .int .u8 bS, .int .u8 bP, .int .u8 bL, .int .u64 hb1, .int .u64 lb1, .pointer zB, .int .u8 bT, .int .u8 bU, .int .u8 bW]] w fun e w' => e = .returned (.int .i64 R) ∧ Gr w w' := by
  have IA := Lib.hid (fun W g => isValid_any p4 p6 ka ha1 la1 W (N.gr (w' := W) g))
  have IB := Lib.hid (fun W g => isValid_any p4 p6 kb hb1 lb1 W (N.gr (w' := W) g))
  have TA1 := Lib.hid (fun (h : fourB za = true) W (g : Gr w W) => to4_yes aa za ca La Ca h W (Ha.gr g))
  have TA0 := Lib.hid (fun (h : fourB za = false) W (g : Gr w W) => to4_nil aa za ca La Ca h W (Ha.gr g))
  have TB1 := Lib.hid (fun (h : fourB zb = true) W (g : Gr w W) => to4_yes ab zb cb Lb Cb h W (Hb.gr g))
  have TB0 := Lib.hid (fun (h : fourB zb = false) W (g : Gr w W) => to4_nil ab zb cb Lb Cb h W (Hb.gr g))
  have CA := Lib.hid (fun (hk : ka.isSome = true) (h : fourB za = false) W (g : Gr w W) => cpl_any p4 p6 ka hk ha1 la1 V1.1 V1.2.1 V1.2.2.1 V1.2.2.2 aa za ca La Ca h W (N.gr g) (Ha.gr g))
  have CB := Lib.hid (fun (hk : kb.isSome = true) (h : fourB zb = false) W (g : Gr w W) => cpl_any p4 p6 kb hk hb1 lb1 V2.1 V2.2.1 V2.2.2.1 V2.2.2.2 ab zb cb Lb Cb h W (N.gr g) (Hb.gr g))
  obtain ⟨b0, b1⟩ := cplK_bd ka ha1 la1 za
  obtain ⟨b2, b3⟩ := cplK_bd kb hb1 lb1 zb
  rw [hva] at IA CA
  rw [hvb] at IB CB
  rw [hf1] at TA1 TA0 CA
  rw [hf2] at TB1 TB0 CB
  rw [← hna] at TA1 TA0 CA
  rw [← hnb] at TB1 TB0 CB
  rw [← hzA] at IA CA
  rw [← hzB] at IB CB
  generalize cplK ka ha1 la1 za = cA at *
  generalize cplK kb hb1 lb1 zb = cB at *
  have HR := Lib.hid hR
  clear N Ha Hb V1 V2 La Lb Ca Cb hna hnb hR hva hvb hf1 hf2 hzA hzB
  have q59 := nil59
  have s59 := some59
  have bx : Hid (∀ W, W = (((w.alloc (.cells #[.slice aa na ca, zna, .int .u8 aS, .int .u8 aP, .int .u8 aL, .int .u64 ha1, .int .u64 la1, .pointer zA, .int .u8 aT, .int .u8 aU, .int .u8 aW] 97)).alloc (.cells #[.slice ab nb cb, znb, .int .u8 bS, .int .u8 bP, .int .u8 bL, .int .u64 hb1, .int .u64 lb1, .pointer zB, .int .u8 bT, .int .u8 bU, .int .u8 bW] 97)).alloc (.cells #[.int .u64 ha1, .int .u64 la1, .pointer zA] 55)).alloc (.cells #[.int .u64 hb1, .int .u64 lb1, .pointer zB] 55) →
      BoxAll w (.slice aa na ca) zna (.slice ab nb cb) znb (.pointer zA) (.pointer zB) aS aP aL ha1 la1 aT aU aW bS bP bL hb1 lb1 bT bU bW W) := by
    rintro W rfl
    refine ⟨((((Gr.refl w).alloc _).alloc _).alloc _).alloc _, ?_, ?_, ?_, ?_⟩
    · unfold Box11; simp [go_sem]
    · unfold Box11; simp [go_sem]
    · unfold Box3; simp [go_sem]
    · unfold Box3; simp [go_sem]
  go_enter Tryd.func61, Tryd.ntmps61
  go_upto_region 9 with fail
  have X0 := Lib.hid (bx.out _ rfl)
  clear bx
  have ne1 : (aS != aT) = !e1 := by rw [bne, he1]
  have ne2 : (bS != bT) = !e2 := by rw [bne, he2]
  have nl1 : (aW != aL) = !l1 := by rw [bne, hl1]
  have nl2 : (bW != bL) = !l2 := by rw [bne, hl2]
  cases va
  · cases vb
    · skip
      go_wp2_with fail
      refine (IA.out _ X0.out.1).mono ?_
      rintro e w1 ⟨rfl, hg⟩
      have X1 := Lib.hid (X0.out.gr hg)
      clear hg
      obtain ⟨tb1, yb01, yb11, yb21⟩ := X1.out.2.2.2.2
      go_wp2_with fail
      refine (IB.out _ X1.out.1).mono ?_
      rintro e w2 ⟨rfl, hg⟩
      have X2 := Lib.hid (X1.out.gr hg)
      clear hg
      go_wp2_with fail
      go_ret
      exact ⟨by rw [HR.out]; rfl, by repeat (first | exact X2.out.1 | refine Gr.drewN ?_ _ | refine Gr.drew ?_)⟩
    · skip
      go_wp2_with fail
      refine (IA.out _ X0.out.1).mono ?_
      rintro e w1 ⟨rfl, hg⟩
      have X1 := Lib.hid (X0.out.gr hg)
      clear hg
      obtain ⟨tb1, yb01, yb11, yb21⟩ := X1.out.2.2.2.2
      go_wp2_with fail
      refine (IB.out _ X1.out.1).mono ?_
      rintro e w2 ⟨rfl, hg⟩
      have X2 := Lib.hid (X1.out.gr hg)
      clear hg
      obtain ⟨tb2, yb02, yb12, yb22⟩ := X2.out.2.2.2.2
      go_wp2_with fail
      refine (IB.out _ X2.out.1).mono ?_
      rintro e w3 ⟨rfl, hg⟩
      have X3 := Lib.hid (X2.out.gr hg)
      clear hg
      obtain ⟨ta3, ya03, ya13, ya23⟩ := X3.out.2.2.2.1
      go_wp2_with fail
      refine (IA.out _ X3.out.1).mono ?_
      rintro e w4 ⟨rfl, hg⟩
      have X4 := Lib.hid (X3.out.gr hg)
      clear hg
      go_wp2_with fail
      go_ret
      exact ⟨by rw [HR.out]; rfl, by repeat (first | exact X4.out.1 | refine Gr.drewN ?_ _ | refine Gr.drew ?_)⟩
  · cases vb
    · skip
      go_wp2_with fail
      refine (IA.out _ X0.out.1).mono ?_
      rintro e w1 ⟨rfl, hg⟩
      have X1 := Lib.hid (X0.out.gr hg)
      clear hg
      obtain ⟨tb1, yb01, yb11, yb21⟩ := X1.out.2.2.2.2
      go_wp2_with fail
      refine (IB.out _ X1.out.1).mono ?_
      rintro e w2 ⟨rfl, hg⟩
      have X2 := Lib.hid (X1.out.gr hg)
      clear hg
      go_wp2_with fail
      go_ret
      exact ⟨by rw [HR.out]; rfl, by repeat (first | exact X2.out.1 | refine Gr.drewN ?_ _ | refine Gr.drew ?_)⟩
    · skip
      go_wp2_with fail
      refine (IA.out _ X0.out.1).mono ?_
      rintro e w1 ⟨rfl, hg⟩
      have X1 := Lib.hid (X0.out.gr hg)
      clear hg
      obtain ⟨tb1, yb01, yb11, yb21⟩ := X1.out.2.2.2.2
      go_wp2_with fail
      refine (IB.out _ X1.out.1).mono ?_
      rintro e w2 ⟨rfl, hg⟩
      have X2 := Lib.hid (X1.out.gr hg)
      clear hg
      obtain ⟨ta2, ya02, ya12, ya22⟩ := X2.out.2.2.2.1
      go_wp2_with fail
      refine (IA.out _ X2.out.1).mono ?_
      rintro e w3 ⟨rfl, hg⟩
      have X3 := Lib.hid (X2.out.gr hg)
      clear hg
      obtain ⟨ta3, ya03, ya13, ya23⟩ := X3.out.2.2.2.1
      obtain ⟨tb3, yb03, yb13, yb23⟩ := X3.out.2.2.2.2
      obtain ⟨ha, a0, a1, a2, a3, a4, a5, a6, a7, a8, a9, a10⟩ := X3.out.2.1
      obtain ⟨hb, c0, c1, c2, c3, c4, c5, c6, c7, c8, c9, c10⟩ := X3.out.2.2.1
      cases e1
      · cases e2
        · skip
          go_wp2_with fail
          go_quiet (fail)
          go_wp2_with fail
          go_quiet (fail)
          cases l1
          · cases l2
            · skip
              go_wp2_with fail
              go_quiet (fail)
              go_wp2_with fail
              go_quiet (fail)
              cases pg
              · skip
                have hp1 : ¬ bP < aP := of_decide_eq_false hpg
                go_wp2_with fail
                go_quiet (fail)
                cases pl
                · skip
                  have hp2 : ¬ aP < bP := of_decide_eq_false hpl
                  go_wp2_with fail
                  go_quiet (fail)
                  cases sl
                  · skip
                    have hs1 : ¬ aS < bS := of_decide_eq_false hsl
                    go_wp2_with fail
                    go_quiet (fail)
                    cases sg
                    · skip
                      have hs2 : ¬ bS < aS := of_decide_eq_false hsg
                      go_wp2_with fail
                      go_quiet (fail)
                      cases f1
                      · cases f2
                        · skip
                          go_wp2_with fail
                          refine (TA0.out (by first | rfl | trivial) _ (by repeat (first | exact X3.out.1 | refine Gr.drewN ?_ _ | refine Gr.drew ?_))).mono ?_
                          rintro e w4 ⟨rfl, rfl⟩
                          go_wp2_with fail
                          refine (TB0.out (by first | rfl | trivial) _ (by repeat (first | exact X3.out.1 | refine Gr.drewN ?_ _ | refine Gr.drew ?_))).mono ?_
                          rintro e w4 ⟨rfl, rfl⟩
                          go_wp2_with fail
                          refine (CA.out (by first | rfl | trivial) (by first | rfl | trivial) _ (by repeat (first | exact X3.out.1 | refine Gr.drewN ?_ _ | refine Gr.drew ?_))).mono ?_
                          rintro e w4 ⟨rfl, hg⟩
                          have X4 := Lib.hid ((X3.out.gr ((Gr.refl _).drewN _)).gr hg)
                          clear hg
                          obtain ⟨tb4, yb04, yb14, yb24⟩ := X4.out.2.2.2.2
                          go_wp2_with fail
                          refine (CB.out (by first | rfl | trivial) (by first | rfl | trivial) _ X4.out.1).mono ?_
                          rintro e w5 ⟨rfl, hg⟩
                          have X5 := Lib.hid (X4.out.gr hg)
                          clear hg
                          cases cg
                          · have hc1 : ¬ cB < cA := of_decide_eq_false hcg
                            cases cl
                            · have hc2 : ¬ cA < cB := of_decide_eq_false hcl
                              go_wp2_with fail
                              go_ret
                              exact ⟨by rw [HR.out]; rfl, by repeat (first | exact X5.out.1 | refine Gr.drewN ?_ _ | refine Gr.drew ?_)⟩
                            · have hc2 : cA < cB := of_decide_eq_true hcl
                              go_wp2_with fail
                              go_ret
                              exact ⟨by rw [HR.out]; rfl, by repeat (first | exact X5.out.1 | refine Gr.drewN ?_ _ | refine Gr.drew ?_)⟩
                          · have hc1 : cB < cA := of_decide_eq_true hcg
                            go_wp2_with fail
                            go_ret
                            exact ⟨by rw [HR.out]; rfl, by repeat (first | exact X5.out.1 | refine Gr.drewN ?_ _ | refine Gr.drew ?_)⟩
                        · skip
                          go_wp2_with fail
                          refine (TA0.out (by first | rfl | trivial) _ (by repeat (first | exact X3.out.1 | refine Gr.drewN ?_ _ | refine Gr.drew ?_))).mono ?_
                          rintro e w4 ⟨rfl, rfl⟩
                          go_wp2_with fail
                          refine (TB1.out (by first | rfl | trivial) _ (by repeat (first | exact X3.out.1 | refine Gr.drewN ?_ _ | refine Gr.drew ?_))).mono ?_
                          rintro e w4 ⟨⟨u1, u2, u3, u4, rfl⟩, rfl⟩
                          go_wp2_with fail
                          go_ret
                          exact ⟨by rw [HR.out]; rfl, by repeat (first | exact X3.out.1 | refine Gr.drewN ?_ _ | refine Gr.drew ?_)⟩
                      · skip
                        go_wp2_with fail
                        refine (TA1.out (by first | rfl | trivial) _ (by repeat (first | exact X3.out.1 | refine Gr.drewN ?_ _ | refine Gr.drew ?_))).mono ?_
                        rintro e w4 ⟨⟨u1, u2, u3, u4, rfl⟩, rfl⟩
                        go_wp2_with fail
                        go_ret
                        exact ⟨by rw [HR.out]; rfl, by repeat (first | exact X3.out.1 | refine Gr.drewN ?_ _ | refine Gr.drew ?_)⟩
                    · skip
                      have hs2 : bS < aS := of_decide_eq_true hsg
                      go_wp2_with fail
                      go_quiet (fail)
                      go_wp2_with fail
                      go_ret
                      exact ⟨by rw [HR.out]; rfl, by repeat (first | exact X3.out.1 | refine Gr.drewN ?_ _ | refine Gr.drew ?_)⟩
                  · skip
                    have hs1 : aS < bS := of_decide_eq_true hsl
                    go_wp2_with fail
                    go_quiet (fail)
                    go_wp2_with fail
                    go_ret
                    exact ⟨by rw [HR.out]; rfl, by repeat (first | exact X3.out.1 | refine Gr.drewN ?_ _ | refine Gr.drew ?_)⟩
                · skip
                  have hp2 : aP < bP := of_decide_eq_true hpl
                  go_wp2_with fail
                  go_quiet (fail)
                  go_wp2_with fail
                  go_ret
                  exact ⟨by rw [HR.out]; rfl, by repeat (first | exact X3.out.1 | refine Gr.drewN ?_ _ | refine Gr.drew ?_)⟩
              · skip
                have hp1 : bP < aP := of_decide_eq_true hpg
                go_wp2_with fail
                go_quiet (fail)
                go_wp2_with fail
                go_ret
                exact ⟨by rw [HR.out]; rfl, by repeat (first | exact X3.out.1 | refine Gr.drewN ?_ _ | refine Gr.drew ?_)⟩
            · skip
              go_wp2_with fail
              go_quiet (fail)
              go_wp2_with fail
              go_quiet (fail)
              go_wp2_with fail
              go_ret
              exact ⟨by rw [HR.out]; rfl, by repeat (first | exact X3.out.1 | refine Gr.drewN ?_ _ | refine Gr.drew ?_)⟩
          · cases l2
            · skip
              go_wp2_with fail
              go_quiet (fail)
              go_wp2_with fail
              go_ret
              exact ⟨by rw [HR.out]; rfl, by repeat (first | exact X3.out.1 | refine Gr.drewN ?_ _ | refine Gr.drew ?_)⟩
            · skip
              go_wp2_with fail
              go_quiet (fail)
              go_wp2_with fail
              go_quiet (fail)
              cases pg
              · skip
                have hp1 : ¬ bP < aP := of_decide_eq_false hpg
                go_wp2_with fail
                go_quiet (fail)
                cases pl
                · skip
                  have hp2 : ¬ aP < bP := of_decide_eq_false hpl
                  go_wp2_with fail
                  go_quiet (fail)
                  cases sl
                  · skip
                    have hs1 : ¬ aS < bS := of_decide_eq_false hsl
                    go_wp2_with fail
                    go_quiet (fail)
                    cases sg
                    · skip
                      have hs2 : ¬ bS < aS := of_decide_eq_false hsg
                      go_wp2_with fail
                      go_quiet (fail)
                      cases f1
                      · cases f2
                        · skip
                          go_wp2_with fail
                          refine (TA0.out (by first | rfl | trivial) _ (by repeat (first | exact X3.out.1 | refine Gr.drewN ?_ _ | refine Gr.drew ?_))).mono ?_
                          rintro e w4 ⟨rfl, rfl⟩
                          go_wp2_with fail
                          refine (TB0.out (by first | rfl | trivial) _ (by repeat (first | exact X3.out.1 | refine Gr.drewN ?_ _ | refine Gr.drew ?_))).mono ?_
                          rintro e w4 ⟨rfl, rfl⟩
                          go_wp2_with fail
                          refine (CA.out (by first | rfl | trivial) (by first | rfl | trivial) _ (by repeat (first | exact X3.out.1 | refine Gr.drewN ?_ _ | refine Gr.drew ?_))).mono ?_
                          rintro e w4 ⟨rfl, hg⟩
                          have X4 := Lib.hid ((X3.out.gr ((Gr.refl _).drewN _)).gr hg)
                          clear hg
                          obtain ⟨tb4, yb04, yb14, yb24⟩ := X4.out.2.2.2.2
                          go_wp2_with fail
                          refine (CB.out (by first | rfl | trivial) (by first | rfl | trivial) _ X4.out.1).mono ?_
                          rintro e w5 ⟨rfl, hg⟩
                          have X5 := Lib.hid (X4.out.gr hg)
                          clear hg
                          cases cg
                          · have hc1 : ¬ cB < cA := of_decide_eq_false hcg
                            cases cl
                            · have hc2 : ¬ cA < cB := of_decide_eq_false hcl
                              go_wp2_with fail
                              go_ret
                              exact ⟨by rw [HR.out]; rfl, by repeat (first | exact X5.out.1 | refine Gr.drewN ?_ _ | refine Gr.drew ?_)⟩
                            · have hc2 : cA < cB := of_decide_eq_true hcl
                              go_wp2_with fail
                              go_ret
                              exact ⟨by rw [HR.out]; rfl, by repeat (first | exact X5.out.1 | refine Gr.drewN ?_ _ | refine Gr.drew ?_)⟩
                          · have hc1 : cB < cA := of_decide_eq_true hcg
                            go_wp2_with fail
                            go_ret
                            exact ⟨by rw [HR.out]; rfl, by repeat (first | exact X5.out.1 | refine Gr.drewN ?_ _ | refine Gr.drew ?_)⟩
                        · skip
                          go_wp2_with fail
                          refine (TA0.out (by first | rfl | trivial) _ (by repeat (first | exact X3.out.1 | refine Gr.drewN ?_ _ | refine Gr.drew ?_))).mono ?_
                          rintro e w4 ⟨rfl, rfl⟩
                          go_wp2_with fail
                          refine (TB1.out (by first | rfl | trivial) _ (by repeat (first | exact X3.out.1 | refine Gr.drewN ?_ _ | refine Gr.drew ?_))).mono ?_
                          rintro e w4 ⟨⟨u1, u2, u3, u4, rfl⟩, rfl⟩
                          go_wp2_with fail
                          go_ret
                          exact ⟨by rw [HR.out]; rfl, by repeat (first | exact X3.out.1 | refine Gr.drewN ?_ _ | refine Gr.drew ?_)⟩
                      · skip
                        go_wp2_with fail
                        refine (TA1.out (by first | rfl | trivial) _ (by repeat (first | exact X3.out.1 | refine Gr.drewN ?_ _ | refine Gr.drew ?_))).mono ?_
                        rintro e w4 ⟨⟨u1, u2, u3, u4, rfl⟩, rfl⟩
                        go_wp2_with fail
                        go_ret
                        exact ⟨by rw [HR.out]; rfl, by repeat (first | exact X3.out.1 | refine Gr.drewN ?_ _ | refine Gr.drew ?_)⟩
                    · skip
                      have hs2 : bS < aS := of_decide_eq_true hsg
                      go_wp2_with fail
                      go_quiet (fail)
                      go_wp2_with fail
                      go_ret
                      exact ⟨by rw [HR.out]; rfl, by repeat (first | exact X3.out.1 | refine Gr.drewN ?_ _ | refine Gr.drew ?_)⟩
                  · skip
                    have hs1 : aS < bS := of_decide_eq_true hsl
                    go_wp2_with fail
                    go_quiet (fail)
                    go_wp2_with fail
                    go_ret
                    exact ⟨by rw [HR.out]; rfl, by repeat (first | exact X3.out.1 | refine Gr.drewN ?_ _ | refine Gr.drew ?_)⟩
                · skip
                  have hp2 : aP < bP := of_decide_eq_true hpl
                  go_wp2_with fail
                  go_quiet (fail)
                  go_wp2_with fail
                  go_ret
                  exact ⟨by rw [HR.out]; rfl, by repeat (first | exact X3.out.1 | refine Gr.drewN ?_ _ | refine Gr.drew ?_)⟩
              · skip
                have hp1 : bP < aP := of_decide_eq_true hpg
                go_wp2_with fail
                go_quiet (fail)
                go_wp2_with fail
                go_ret
                exact ⟨by rw [HR.out]; rfl, by repeat (first | exact X3.out.1 | refine Gr.drewN ?_ _ | refine Gr.drew ?_)⟩
        · skip
          go_wp2_with fail
          go_quiet (fail)
          go_wp2_with fail
          go_quiet (fail)
          go_wp2_with fail
          go_ret
          exact ⟨by rw [HR.out]; rfl, by repeat (first | exact X3.out.1 | refine Gr.drewN ?_ _ | refine Gr.drew ?_)⟩
      · cases e2
        · skip
          go_wp2_with fail
          go_quiet (fail)
          go_wp2_with fail
          go_ret
          exact ⟨by rw [HR.out]; rfl, by repeat (first | exact X3.out.1 | refine Gr.drewN ?_ _ | refine Gr.drew ?_)⟩
        · skip
          go_wp2_with fail
          go_quiet (fail)
          go_wp2_with fail
          go_quiet (fail)
          cases l1
          · cases l2
            · skip
              go_wp2_with fail
              go_quiet (fail)
              go_wp2_with fail
              go_quiet (fail)
              cases pg
              · skip
                have hp1 : ¬ bP < aP := of_decide_eq_false hpg
                go_wp2_with fail
                go_quiet (fail)
                cases pl
                · skip
                  have hp2 : ¬ aP < bP := of_decide_eq_false hpl
                  go_wp2_with fail
                  go_quiet (fail)
                  cases sl
                  · skip
                    have hs1 : ¬ aS < bS := of_decide_eq_false hsl
                    go_wp2_with fail
                    go_quiet (fail)
                    cases sg
                    · skip
                      have hs2 : ¬ bS < aS := of_decide_eq_false hsg
                      go_wp2_with fail
                      go_quiet (fail)
                      cases f1
                      · cases f2
                        · skip
                          go_wp2_with fail
                          refine (TA0.out (by first | rfl | trivial) _ (by repeat (first | exact X3.out.1 | refine Gr.drewN ?_ _ | refine Gr.drew ?_))).mono ?_
                          rintro e w4 ⟨rfl, rfl⟩
                          go_wp2_with fail
                          refine (TB0.out (by first | rfl | trivial) _ (by repeat (first | exact X3.out.1 | refine Gr.drewN ?_ _ | refine Gr.drew ?_))).mono ?_
                          rintro e w4 ⟨rfl, rfl⟩
                          go_wp2_with fail
                          refine (CA.out (by first | rfl | trivial) (by first | rfl | trivial) _ (by repeat (first | exact X3.out.1 | refine Gr.drewN ?_ _ | refine Gr.drew ?_))).mono ?_
                          rintro e w4 ⟨rfl, hg⟩
                          have X4 := Lib.hid ((X3.out.gr ((Gr.refl _).drewN _)).gr hg)
                          clear hg
                          obtain ⟨tb4, yb04, yb14, yb24⟩ := X4.out.2.2.2.2
                          go_wp2_with fail
                          refine (CB.out (by first | rfl | trivial) (by first | rfl | trivial) _ X4.out.1).mono ?_
                          rintro e w5 ⟨rfl, hg⟩
                          have X5 := Lib.hid (X4.out.gr hg)
                          clear hg
                          cases cg
                          · have hc1 : ¬ cB < cA := of_decide_eq_false hcg
                            cases cl
                            · have hc2 : ¬ cA < cB := of_decide_eq_false hcl
                              go_wp2_with fail
                              go_ret
                              exact ⟨by rw [HR.out]; rfl, by repeat (first | exact X5.out.1 | refine Gr.drewN ?_ _ | refine Gr.drew ?_)⟩
                            · have hc2 : cA < cB := of_decide_eq_true hcl
                              go_wp2_with fail
                              go_ret
                              exact ⟨by rw [HR.out]; rfl, by repeat (first | exact X5.out.1 | refine Gr.drewN ?_ _ | refine Gr.drew ?_)⟩
                          · have hc1 : cB < cA := of_decide_eq_true hcg
                            go_wp2_with fail
                            go_ret
                            exact ⟨by rw [HR.out]; rfl, by repeat (first | exact X5.out.1 | refine Gr.drewN ?_ _ | refine Gr.drew ?_)⟩
                        · skip
                          go_wp2_with fail
                          refine (TA0.out (by first | rfl | trivial) _ (by repeat (first | exact X3.out.1 | refine Gr.drewN ?_ _ | refine Gr.drew ?_))).mono ?_
                          rintro e w4 ⟨rfl, rfl⟩
                          go_wp2_with fail
                          refine (TB1.out (by first | rfl | trivial) _ (by repeat (first | exact X3.out.1 | refine Gr.drewN ?_ _ | refine Gr.drew ?_))).mono ?_
                          rintro e w4 ⟨⟨u1, u2, u3, u4, rfl⟩, rfl⟩
                          go_wp2_with fail
                          go_ret
                          exact ⟨by rw [HR.out]; rfl, by repeat (first | exact X3.out.1 | refine Gr.drewN ?_ _ | refine Gr.drew ?_)⟩
                      · skip
                        go_wp2_with fail
                        refine (TA1.out (by first | rfl | trivial) _ (by repeat (first | exact X3.out.1 | refine Gr.drewN ?_ _ | refine Gr.drew ?_))).mono ?_
                        rintro e w4 ⟨⟨u1, u2, u3, u4, rfl⟩, rfl⟩
                        go_wp2_with fail
                        go_ret
                        exact ⟨by rw [HR.out]; rfl, by repeat (first | exact X3.out.1 | refine Gr.drewN ?_ _ | refine Gr.drew ?_)⟩
                    · skip
                      have hs2 : bS < aS := of_decide_eq_true hsg
                      go_wp2_with fail
                      go_quiet (fail)
                      go_wp2_with fail
                      go_ret
                      exact ⟨by rw [HR.out]; rfl, by repeat (first | exact X3.out.1 | refine Gr.drewN ?_ _ | refine Gr.drew ?_)⟩
                  · skip
                    have hs1 : aS < bS := of_decide_eq_true hsl
                    go_wp2_with fail
                    go_quiet (fail)
                    go_wp2_with fail
                    go_ret
                    exact ⟨by rw [HR.out]; rfl, by repeat (first | exact X3.out.1 | refine Gr.drewN ?_ _ | refine Gr.drew ?_)⟩
                · skip
                  have hp2 : aP < bP := of_decide_eq_true hpl
                  go_wp2_with fail
                  go_quiet (fail)
                  go_wp2_with fail
                  go_ret
                  exact ⟨by rw [HR.out]; rfl, by repeat (first | exact X3.out.1 | refine Gr.drewN ?_ _ | refine Gr.drew ?_)⟩
              · skip
                have hp1 : bP < aP := of_decide_eq_true hpg
                go_wp2_with fail
                go_quiet (fail)
                go_wp2_with fail
                go_ret
                exact ⟨by rw [HR.out]; rfl, by repeat (first | exact X3.out.1 | refine Gr.drewN ?_ _ | refine Gr.drew ?_)⟩
            · skip
              go_wp2_with fail
              go_quiet (fail)
              go_wp2_with fail
              go_quiet (fail)
              go_wp2_with fail
              go_ret
              exact ⟨by rw [HR.out]; rfl, by repeat (first | exact X3.out.1 | refine Gr.drewN ?_ _ | refine Gr.drew ?_)⟩
          · cases l2
            · skip
              go_wp2_with fail
              go_quiet (fail)
              go_wp2_with fail
              go_ret
              exact ⟨by rw [HR.out]; rfl, by repeat (first | exact X3.out.1 | refine Gr.drewN ?_ _ | refine Gr.drew ?_)⟩
            · skip
              go_wp2_with fail
              go_quiet (fail)
              go_wp2_with fail
              go_quiet (fail)
              cases pg
              · skip
                have hp1 : ¬ bP < aP := of_decide_eq_false hpg
                go_wp2_with fail
                go_quiet (fail)
                cases pl
                · skip
                  have hp2 : ¬ aP < bP := of_decide_eq_false hpl
                  go_wp2_with fail
                  go_quiet (fail)
                  cases sl
                  · skip
                    have hs1 : ¬ aS < bS := of_decide_eq_false hsl
                    go_wp2_with fail
                    go_quiet (fail)
                    cases sg
                    · skip
                      have hs2 : ¬ bS < aS := of_decide_eq_false hsg
                      go_wp2_with fail
                      go_quiet (fail)
                      cases f1
                      · cases f2
                        · skip
                          go_wp2_with fail
                          refine (TA0.out (by first | rfl | trivial) _ (by repeat (first | exact X3.out.1 | refine Gr.drewN ?_ _ | refine Gr.drew ?_))).mono ?_
                          rintro e w4 ⟨rfl, rfl⟩
                          go_wp2_with fail
                          refine (TB0.out (by first | rfl | trivial) _ (by repeat (first | exact X3.out.1 | refine Gr.drewN ?_ _ | refine Gr.drew ?_))).mono ?_
                          rintro e w4 ⟨rfl, rfl⟩
                          go_wp2_with fail
                          refine (CA.out (by first | rfl | trivial) (by first | rfl | trivial) _ (by repeat (first | exact X3.out.1 | refine Gr.drewN ?_ _ | refine Gr.drew ?_))).mono ?_
                          rintro e w4 ⟨rfl, hg⟩
                          have X4 := Lib.hid ((X3.out.gr ((Gr.refl _).drewN _)).gr hg)
                          clear hg
                          obtain ⟨tb4, yb04, yb14, yb24⟩ := X4.out.2.2.2.2
                          go_wp2_with fail
                          refine (CB.out (by first | rfl | trivial) (by first | rfl | trivial) _ X4.out.1).mono ?_
                          rintro e w5 ⟨rfl, hg⟩
                          have X5 := Lib.hid (X4.out.gr hg)
                          clear hg
                          cases cg
                          · have hc1 : ¬ cB < cA := of_decide_eq_false hcg
                            cases cl
                            · have hc2 : ¬ cA < cB := of_decide_eq_false hcl
                              go_wp2_with fail
                              go_ret
                              exact ⟨by rw [HR.out]; rfl, by repeat (first | exact X5.out.1 | refine Gr.drewN ?_ _ | refine Gr.drew ?_)⟩
                            · have hc2 : cA < cB := of_decide_eq_true hcl
                              go_wp2_with fail
                              go_ret
                              exact ⟨by rw [HR.out]; rfl, by repeat (first | exact X5.out.1 | refine Gr.drewN ?_ _ | refine Gr.drew ?_)⟩
                          · have hc1 : cB < cA := of_decide_eq_true hcg
                            go_wp2_with fail
                            go_ret
                            exact ⟨by rw [HR.out]; rfl, by repeat (first | exact X5.out.1 | refine Gr.drewN ?_ _ | refine Gr.drew ?_)⟩
                        · skip
                          go_wp2_with fail
                          refine (TA0.out (by first | rfl | trivial) _ (by repeat (first | exact X3.out.1 | refine Gr.drewN ?_ _ | refine Gr.drew ?_))).mono ?_
                          rintro e w4 ⟨rfl, rfl⟩
                          go_wp2_with fail
                          refine (TB1.out (by first | rfl | trivial) _ (by repeat (first | exact X3.out.1 | refine Gr.drewN ?_ _ | refine Gr.drew ?_))).mono ?_
                          rintro e w4 ⟨⟨u1, u2, u3, u4, rfl⟩, rfl⟩
                          go_wp2_with fail
                          go_ret
                          exact ⟨by rw [HR.out]; rfl, by repeat (first | exact X3.out.1 | refine Gr.drewN ?_ _ | refine Gr.drew ?_)⟩
                      · skip
                        go_wp2_with fail
                        refine (TA1.out (by first | rfl | trivial) _ (by repeat (first | exact X3.out.1 | refine Gr.drewN ?_ _ | refine Gr.drew ?_))).mono ?_
                        rintro e w4 ⟨⟨u1, u2, u3, u4, rfl⟩, rfl⟩
                        go_wp2_with fail
                        go_ret
                        exact ⟨by rw [HR.out]; rfl, by repeat (first | exact X3.out.1 | refine Gr.drewN ?_ _ | refine Gr.drew ?_)⟩
                    · skip
                      have hs2 : bS < aS := of_decide_eq_true hsg
                      go_wp2_with fail
                      go_quiet (fail)
                      go_wp2_with fail
                      go_ret
                      exact ⟨by rw [HR.out]; rfl, by repeat (first | exact X3.out.1 | refine Gr.drewN ?_ _ | refine Gr.drew ?_)⟩
                  · skip
                    have hs1 : aS < bS := of_decide_eq_true hsl
                    go_wp2_with fail
                    go_quiet (fail)
                    go_wp2_with fail
                    go_ret
                    exact ⟨by rw [HR.out]; rfl, by repeat (first | exact X3.out.1 | refine Gr.drewN ?_ _ | refine Gr.drew ?_)⟩
                · skip
                  have hp2 : aP < bP := of_decide_eq_true hpl
                  go_wp2_with fail
                  go_quiet (fail)
                  go_wp2_with fail
                  go_ret
                  exact ⟨by rw [HR.out]; rfl, by repeat (first | exact X3.out.1 | refine Gr.drewN ?_ _ | refine Gr.drew ?_)⟩
              · skip
                have hp1 : bP < aP := of_decide_eq_true hpg
                go_wp2_with fail
                go_quiet (fail)
                go_wp2_with fail
                go_ret
                exact ⟨by rw [HR.out]; rfl, by repeat (first | exact X3.out.1 | refine Gr.drewN ?_ _ | refine Gr.drew ?_)⟩
end Go.Proofs.YtbejikpopealdaaDoor
