/-
  The stable sort of the library: the merge in place, walked, by induction on the length.
-/
import Derived.Test.YtbejikpopealdaaDoorQSortD
import Derived.Deep.DeepCutAuto
namespace Go.Proofs.YtbejikpopealdaaDoor
open Go.Shelf Go.RowKit Go.Lib Go.Sort
variable {P : Program} {enc : Nat → List Value} {k : Nat} {w0 : World} {blk off : Nat}

/-- What the merge of a range shorter than N is known to do. -/
def SymIH (P : Program) (enc : Nat → List Value) (k : Nat) (w0 : World) (blk off : Nat) (cf : Nat → Nat → Int) (fv : Value) (cap : Nat) (d0 : Array Nat) (N : Nat) : Prop :=
  ∀ (a m b : Nat) (d : Array Nat) (w : World), b - a < N → d0.size = d.size → SWK enc k w0 blk off d w → SymIn cf a m b d →
    Calls P 95 #[.slice (some ⟨blk, off, none⟩) d.size cap, .int .i64 a, .int .i64 m, .int .i64 b, fv] w fun e w' => e = .returned (.tuple #[]) ∧ ∃ d', SymOk cf a b d d' ∧ SWK enc k w0 blk off d' w'

set_option maxHeartbeats 8000000 in
set_option maxRecDepth 1000000 in
theorem sym_both (L : LaySt P k) (cf : Nat → Nat → Int) (PR : Pre cf) (g : Nat) (cb : Array Value) (cap a m b N : Nat) (d0 d : Array Nat) (w : World)
    (eg : ∀ args w, (callFunc g args).run P w = .ok (.enter g args) w) (hcmp : CmpLays P g cb enc k cf blk off d0.size w0) (R : RowK enc k w0 blk off d0) (hs : d0.size = d.size) (S : SWK enc k w0 blk off d w) (H : SymIn cf a m b d) (hn : m ≠ a + 1) (hn2 : b ≠ m + 1) (hsz : d.size < 2305843009213693952)
    (ih : SymIH P enc k w0 blk off cf (.func (.func g) #[] cb) cap d0 N) (hN : b - a < N + 1) :
    Calls P 95 #[.slice (some ⟨blk, off, none⟩) d.size cap, .int .i64 a, .int .i64 m, .int .i64 b, .func (.func g) #[] cb] w fun e w' => e = .returned (.tuple #[]) ∧ ∃ d', SymOk cf a b d d' ∧ SWK enc k w0 blk off d' w' := by
  have mixed := L.mixed; have t0 := L.t0; have a0 := L.a0; have z0 := L.z0; have v0 := L.v0; have t3 := L.t3; have a3 := L.a3; have z3 := L.z3; have v3 := L.v3; have t4 := L.t4; have a4 := L.a4; have z4 := L.z4; have v4 := L.v4; have t87 := L.t87; have a87 := L.a87; have z87 := L.z87; have v87 := L.v87; have t92 := L.t92; have a92 := L.a92; have z92 := L.z92; have v92 := L.v92; have t99 := L.t99; have a99 := L.a99; have z99 := L.z99; have v99 := L.v99
  have aE := L.a97
  have zE := L.z97
  have FG := L.f95
  have e104 : ∀ args w, (callFunc 104 args).run P w = .ok (.enter 104 args) w := enters_of L.f104 rfl rfl
  have e95 : ∀ args w, (callFunc 95 args).run P w = .ok (.enter 95 args) w := enters_of L.f95 rfl rfl
  have HC : Aside _ := hcmp
  have LL := Lib.hid L
  have S0 : Aside (SWK enc k w0 blk off d w) := S
  have HH := Lib.hid H
  have IH := Lib.hid ih
  have hmb := H.mb
  have hbs := H.bs
  have ham := H.am
  have hm0 : ((m : Int) - (a : Int) == 1) = false := by rw [beq_eq_false_iff_ne]; omega
  have hm1 : ((b : Int) - (m : Int) == 1) = false := by rw [beq_eq_false_iff_ne]; omega
  have hds0 := Lib.hid hs
  obtain ⟨mid, hmid, hm2, hm3⟩ : ∃ mid : Nat, ((a : Int) + (b : Int)) / 2 = (mid : Int) ∧ 2 * mid ≤ a + b ∧ a + b < 2 * mid + 2 := ⟨(a + b) / 2, by omega, by omega, by omega⟩
  obtain ⟨lo, hlo⟩ : ∃ lo, lo = if mid < m then mid + m - b else a := ⟨_, rfl⟩
  obtain ⟨hi, hhi⟩ : ∃ hi, hi = if mid < m then mid else m := ⟨_, rfl⟩
  have LO := Lib.hid hlo
  have HI := Lib.hid hhi
  have hb1 : lo ≤ hi ∧ a ≤ lo ∧ hi ≤ m ∧ hi ≤ mid ∧ mid + m ≤ lo + b ∧ hi + m ≤ mid + m := by
    by_cases c : mid < m
    · rw [if_pos c] at hlo hhi; omega
    · rw [if_neg c] at hlo hhi; omega
  obtain ⟨hb1, hb2, hb3, hb4, hb5, hb6⟩ := hb1
  have B0 : Hid (Cut cf lo hi (mid + m - 1) d lo hi) := ⟨Nat.le_refl _, hb1, Nat.le_refl _, Or.inl rfl, Or.inl rfl⟩
  clear S L H hcmp hn hn2 ih hlo hhi hs
  obtain ⟨p, hp, hp2⟩ : ∃ p : Nat, (mid : Int) + (m : Int) - 1 = (p : Int) ∧ p = mid + m - 1 := ⟨mid + m - 1, by omega, rfl⟩
  rw [← hp2] at B0
  have P2 := Lib.hid hp2
  clear hp2
  go_enter FG, Tryd.ntmps95
  go_upto_if 140 with fail
  go_cut [20, 21] (fun s20 s21 wx => s20 = .int .i64 lo ∧ s21 = .int .i64 hi ∧ wx = w)
  case first => as_aux_lemma =>
    by_cases c : mid < m
    · have cz : (mid : Int) < (m : Int) := by omega
      go_wp2_with fail
      go_meet
      have e1 := LO.out
      have e2 := HI.out
      rw [if_pos c] at e1 e2
      exact ⟨by congr 1; omega, by congr 1; omega, rfl⟩
    · have cz : ¬ (mid : Int) < (m : Int) := by omega
      go_wp2_with fail
      go_meet
      have e1 := LO.out
      have e2 := HI.out
      rw [if_neg c] at e1 e2
      exact ⟨by congr 1; omega, by congr 1; omega, rfl⟩
  case rest => as_aux_lemma =>
    obtain ⟨rfl, rfl, rfl⟩ := hcut
    go_wp2_with fail
    go_loopg [20, 21] (hi - lo) (fun kx s20 s21 wr => ∃ (i j : Nat), s20 = .int .i64 i ∧ s21 = .int .i64 j ∧ lo ≤ i ∧ i ≤ j ∧ j ≤ hi ∧ j - i ≤ kx ∧ Aside (SWK enc k w0 blk off d wr) ∧ Hid (Cut cf lo hi p d i j))
    case atStart => exact ⟨lo, hi, rfl, rfl, Nat.le_refl _, by omega, Nat.le_refl _, Nat.le_refl _, S0, B0⟩
    case round =>
      clear S0 B0
      obtain ⟨i, j, rfl, rfl, hmi, hij, hjb, hkx, S1, HB⟩ := hrel
      by_cases hlt : i < j
      · as_aux_lemma =>
        have hltz : (i : Int) < (j : Int) := by omega
        obtain ⟨h, hh, hh1, hh2⟩ : ∃ h : Nat, ((i : Int) + (j : Int)) / 2 = (h : Int) ∧ i ≤ h ∧ h < j := ⟨(i + j) / 2, by omega, by omega, by omega⟩
        obtain ⟨q, hq, hq2⟩ : ∃ q : Nat, (p : Int) - (h : Int) = (q : Int) ∧ q = p - h := ⟨p - h, by omega, rfl⟩
        have ea1 : ((q : Int)).toNat = q := by omega
        have pa1 : (0 : Int) ≤ (q : Int) := by omega
        have ba1 : (q : Int) < (d.size : Int) := by omega
        have ra1 : IntKind.i64.wrap ((q : Int)) = (q : Int) := by rw [IntKind.wrap_i64]; omega
        have ec1 : ((h : Int)).toNat = h := by omega
        have pc1 : (0 : Int) ≤ (h : Int) := by omega
        have bc1 : (h : Int) < (d.size : Int) := by omega
        have rc1 : IntKind.i64.wrap ((h : Int)) = (h : Int) := by rw [IntKind.wrap_i64]; omega
        have rq1 : IntKind.i64.wrap ((p : Int) - (h : Int)) = (q : Int) := by rw [IntKind.wrap_i64]; omega
        obtain ⟨x1, hx1⟩ : ∃ x, x = d[q]! := ⟨_, rfl⟩
        obtain ⟨y1, hy1⟩ : ∃ x, x = d[h]! := ⟨_, rfl⟩
        have l1a := S1.out.ld R (by have := hds0.out; omega) P q (by omega)
        have l1b := S1.out.ld R (by have := hds0.out; omega) P h (by omega)
        rw [← hx1] at l1a
        rw [← hy1] at l1b
        have hc1 := S1.out.cmp HC.out (by have := hds0.out; omega) x1 y1
        rw [hq2] at hx1
        have HX := Lib.hid (And.intro hx1 hy1)
        clear hx1 hy1 hq2
        by_cases hv1 : cf x1 y1 < 0
        · have HV := Lib.hid hv1
          have hd1 : decide (cf x1 y1 < 0) = true := decide_eq_true hv1
          go_wp2_with fail
          go_quiet_grown (first | (go_at_fn g; refine Calls.grown_of (hc1 _ _)))
          have S6 : Aside (SWK enc k w0 blk off d (grow (wr.drewN nq) osq)) := S1.out.grown nq osq
          clear l1a l1b hc1 S1
          generalize grow (wr.drewN nq) osq = w6 at S6 ⊢
          go_wp2
          go_roundg (h - i)
          case measure => omega
          case rel =>
            obtain ⟨q1, q2, q3, q4, q5⟩ := HB.out
            exact ⟨i, h, rfl, rfl, hmi, hh1, by omega, Nat.le_refl _, S6, ⟨hmi, hh1, by omega, q4, Or.inr (by rw [← HX.out.1, ← HX.out.2]; exact decide_eq_true HV.out)⟩⟩
        · have HV := Lib.hid hv1
          have hd1 : decide (cf x1 y1 < 0) = false := decide_eq_false hv1
          go_wp2_with fail
          go_quiet_grown (first | (go_at_fn g; refine Calls.grown_of (hc1 _ _)))
          have S6 : Aside (SWK enc k w0 blk off d (grow (wr.drewN nq) osq)) := S1.out.grown nq osq
          clear l1a l1b hc1 S1
          generalize grow (wr.drewN nq) osq = w6 at S6 ⊢
          go_wp2
          go_roundg (j - (h + 1))
          case measure => omega
          case rel =>
            obtain ⟨q1, q2, q3, q4, q5⟩ := HB.out
            exact ⟨h + 1, j, by go_num, rfl, by omega, by omega, hjb, Nat.le_refl _, S6, ⟨by omega, by omega, hjb, Or.inr (by rw [Nat.add_sub_cancel, ← HX.out.1, ← HX.out.2]; exact decide_eq_false (by have := HV.out; omega)), q5⟩⟩
      · have hltz : ¬ (i : Int) < (j : Int) := by omega
        obtain rfl : i = j := by omega
        obtain ⟨e, he, he2⟩ : ∃ e : Nat, (mid : Int) + (m : Int) - (i : Int) = (e : Int) ∧ e = mid + m - i := ⟨mid + m - i, by omega, rfl⟩
        have E2 := Lib.hid he2
        have e1 : i ≤ m ∧ m ≤ e ∧ i ≤ mid ∧ mid ≤ e ∧ e ≤ b ∧ a ≤ i ∧ a < mid ∧ mid < b := by omega
        obtain ⟨e1, e3, e4, e5, e6, e7, e8, e9⟩ := e1
        clear he2
        go_upto_region 39 with fail
        go_cut [185] (fun s wx => s = .bool (decide (i < m ∧ m < e)) ∧ wx = wr)
        case first => as_aux_lemma =>
          by_cases c1 : i < m
          · by_cases c2 : m < e
            · go_wp2_with fail
              go_meet
              exact ⟨by simp [c1, c2], rfl⟩
            · go_wp2_with fail
              go_meet
              exact ⟨by simp [c1, c2], rfl⟩
          · go_wp2_with fail
            go_meet
            exact ⟨by simp [c1], rfl⟩
        case rest => as_aux_lemma =>
          obtain ⟨rfl, rfl⟩ := hcut
          go_upto_if 185 with fail
          go_cut [] (fun wx => ∃ d1, Hid (SymMid cf a i mid e b d1 ∧ PermIn a b d d1) ∧ Aside (SWK enc k w0 blk off d1 wx))
          case first => as_aux_lemma =>
            have MID := Lib.hid (fun d1 (RT : Rot i m (mid + m - i) d d1) => sym_mid PR HH.out hm2 hm3 (by omega) LO.out HI.out (by have := HB.out; rw [P2.out] at this; exact this) RT)
            rw [← E2.out] at MID
            by_cases c : i < m ∧ m < e
            · obtain ⟨c1, c2⟩ := c
              have hd : decide (i < m ∧ m < e) = true := decide_eq_true ⟨c1, c2⟩
              have hcall := rotate_any LL.out (.func (.func g) #[] cb) cap i m e d0 d wc R hds0.out S1.out c1 c2 (by omega) (by omega)
              have HCR := Lib.hid hcall
              clear hcall S1
              go_wp2_with (go_at_fn 104; refine HCR.out.mono ?_; rintro e w1 ⟨rfl, dl, HS, S3⟩; have HS1 := Lib.hid HS; clear HS; have S4 : Aside _ := S3; clear S3)
              go_meet
              exact ⟨dl, MID.out dl HS1.out, S4⟩
            · have hd : decide (i < m ∧ m < e) = false := decide_eq_false c
              go_wp2_with fail
              go_meet
              exact ⟨d, MID.out d (Rot.triv d e1 e3 c), S1⟩
          case rest => as_aux_lemma =>
            obtain ⟨d1, HM, S2⟩ := hcut
            have hs1 := Lib.hid (HM.out.2.1)
            clear S1
            go_upto_region 41 with fail
            go_cut [199] (fun s wx => s = .bool (decide (a < i ∧ i < mid)) ∧ wx = wc)
            case first => as_aux_lemma =>
              by_cases c1 : a < i
              · by_cases c2 : i < mid
                · go_wp2_with fail
                  go_meet
                  exact ⟨by simp [c1, c2], rfl⟩
                · go_wp2_with fail
                  go_meet
                  exact ⟨by simp [c1, c2], rfl⟩
              · go_wp2_with fail
                go_meet
                exact ⟨by simp [c1], rfl⟩
            case rest => as_aux_lemma =>
              obtain ⟨rfl, rfl⟩ := hcut
              go_upto_if 199 with fail
              go_cut [] (fun wx => ∃ d2, Hid (SymOk cf a mid d1 d2) ∧ Aside (SWK enc k w0 blk off d2 wx))
              case first => as_aux_lemma =>
                by_cases c : a < i ∧ i < mid
                · have hd : decide (a < i ∧ i < mid) = true := decide_eq_true c
                  have hcall := IH.out a i mid d1 wc (by omega) (by have := hs1.out; have := hds0.out; omega) S2.out (HM.out.1.left c.1 c.2)
                  rw [hs1.out] at hcall
                  have HCR := Lib.hid hcall
                  clear hcall S2
                  go_wp2_with (go_at_fn 95; refine HCR.out.mono ?_; rintro e w1 ⟨rfl, dl, HS, S3⟩; have HS1 := Lib.hid HS; clear HS; have S4 : Aside _ := S3; clear S3)
                  go_meet
                  exact ⟨dl, HS1, S4⟩
                · have hd : decide (a < i ∧ i < mid) = false := decide_eq_false c
                  go_wp2_with fail
                  go_meet
                  exact ⟨d1, HM.out.1.left0 c, S2⟩
              case rest => as_aux_lemma =>
                obtain ⟨d2, HK, S3⟩ := hcut
                have hs2 := Lib.hid (HK.out.2.1)
                clear S2
                go_upto_region 43 with fail
                go_cut [213] (fun s wx => s = .bool (decide (mid < e ∧ e < b)) ∧ wx = wc)
                case first => as_aux_lemma =>
                  by_cases c1 : mid < e
                  · by_cases c2 : e < b
                    · go_wp2_with fail
                      go_meet
                      exact ⟨by simp [c1, c2], rfl⟩
                    · go_wp2_with fail
                      go_meet
                      exact ⟨by simp [c1, c2], rfl⟩
                  · go_wp2_with fail
                    go_meet
                    exact ⟨by simp [c1], rfl⟩
                case rest => as_aux_lemma =>
                  obtain ⟨rfl, rfl⟩ := hcut
                  by_cases c : mid < e ∧ e < b
                  · have hd : decide (mid < e ∧ e < b) = true := decide_eq_true c
                    have hcall := IH.out mid e b d2 wc (by omega) (by have := hs1.out; have := hs2.out; have := hds0.out; omega) S3.out (HM.out.1.right HK.out c.1 c.2)
                    rw [hs2.out, hs1.out] at hcall
                    have HCR := Lib.hid hcall
                    clear hcall S3
                    go_wp2_with (go_at_fn 95; refine HCR.out.mono ?_; rintro e w1 ⟨rfl, dl, HS, S3⟩; have HS1 := Lib.hid HS; clear HS; have S4 : Aside _ := S3; clear S3)
                    go_end0
                    obtain ⟨r1, r2⟩ := HM.out.1.done HK.out HS1.out
                    exact ⟨rfl, dl, ⟨r1, permIn_trans _ _ _ _ _ HM.out.2 r2⟩, S4.out⟩
                  · have hd : decide (mid < e ∧ e < b) = false := decide_eq_false c
                    go_wp2_with fail
                    go_end0
                    obtain ⟨r1, r2⟩ := HM.out.1.done HK.out (HM.out.1.right0 HK.out c)
                    exact ⟨rfl, d2, ⟨r1, permIn_trans _ _ _ _ _ HM.out.2 r2⟩, S3.out⟩
end Go.Proofs.YtbejikpopealdaaDoor
/-
  The stable sort of the library: the blocks, the stages, the whole, walked.
-/
namespace Go.Proofs.YtbejikpopealdaaDoor
open Go.Shelf Go.RowKit Go.Lib Go.Sort
variable {P : Program} {enc : Nat → List Value} {k : Nat} {w0 : World} {blk off : Nat}

theorem sym_any (L : LaySt P k) (cf : Nat → Nat → Int) (PR : Pre cf) (g : Nat) (cb : Array Value) (cap : Nat) (d0 : Array Nat)
    (eg : ∀ args w, (callFunc g args).run P w = .ok (.enter g args) w) (hcmp : CmpLays P g cb enc k cf blk off d0.size w0) (R : RowK enc k w0 blk off d0) (hsz : d0.size < 2305843009213693952) :
    ∀ N, SymIH P enc k w0 blk off cf (.func (.func g) #[] cb) cap d0 N := by
  intro N
  induction N with
  | zero => intro a m b d w h; exact absurd h (Nat.not_lt_zero _)
  | succ N ih =>
    intro a m b d w hN hs S H
    by_cases h1 : m = a + 1
    · exact sym_left L cf PR g cb cap a m b d0 d w eg hcmp R hs S H h1 (by omega)
    · by_cases h2 : b = m + 1
      · exact sym_right L cf PR g cb cap a m b d0 d w eg hcmp R hs S H h1 h2 (by omega)
      · exact sym_both L cf PR g cb cap a m b N d0 d w eg hcmp R hs S H h1 h2 (by omega) ih hN

set_option maxHeartbeats 8000000 in
set_option maxRecDepth 1000000 in
theorem stable_any (L : LaySt P k) (cf : Nat → Nat → Int) (PR : Pre cf) (g : Nat) (cb : Array Value) (cap : Nat) (d : Array Nat) (w : World)
    (eg : ∀ args w, (callFunc g args).run P w = .ok (.enter g args) w) (hcmp : CmpLays P g cb enc k cf blk off d.size w0) (R : RowK enc k w0 blk off d) (S : SWK enc k w0 blk off d w) (hsz : d.size < 1152921504606846976)
    (hasc : ∀ x y, x < y → y < d.size → d[x]! < d[y]!) :
    Calls P 83 #[.slice (some ⟨blk, off, none⟩) d.size cap, .int .i64 d.size, .func (.func g) #[] cb] w fun e w' => e = .returned (.tuple #[]) ∧ ∃ d', SS cf 0 d.size d' ∧ PermIn 0 d.size d d' ∧ SWK enc k w0 blk off d' w' := by
  have mixed := L.mixed; have t0 := L.t0; have a0 := L.a0; have z0 := L.z0; have v0 := L.v0; have t3 := L.t3; have a3 := L.a3; have z3 := L.z3; have v3 := L.v3; have t4 := L.t4; have a4 := L.a4; have z4 := L.z4; have v4 := L.v4; have t87 := L.t87; have a87 := L.a87; have z87 := L.z87; have v87 := L.v87; have t92 := L.t92; have a92 := L.a92; have z92 := L.z92; have v92 := L.v92; have t99 := L.t99; have a99 := L.a99; have z99 := L.z99; have v99 := L.v99
  have FG := L.f83
  have e94 : ∀ args w, (callFunc 94 args).run P w = .ok (.enter 94 args) w := enters_of L.f94 rfl rfl
  have e95 : ∀ args w, (callFunc 95 args).run P w = .ok (.enter 95 args) w := enters_of L.f95 rfl rfl
  have INS := Lib.hid (fun (a b : Nat) (dk : Array Nat) (wr : World) (h1 : d.size = dk.size) (h2 : SWK enc k w0 blk off dk wr) (h3 : a ≤ b) (h4 : b ≤ dk.size) (h5 : (Sort.insertionSort (ltOf cf) dk a b).size = dk.size) => insertion_any L cf g cb cap a b d dk wr eg hcmp R h1 h2 h3 h4 h5 (by omega))
  have SYM := Lib.hid (fun N => sym_any L cf PR g cb cap d eg hcmp R (by omega) N)
  have S0 : Aside (SWK enc k w0 blk off d w) := S
  have B0 : Hid (Ph1 cf d.size 0 d ∧ PermIn 0 d.size d d) := ⟨Ph1.start cf d.size d rfl hasc, permIn_refl d _ _⟩
  have PRH := Lib.hid PR
  clear S L hcmp hasc R PR
  go_enter FG, Tryd.ntmps83
  go_wp2
  go_loopg [7, 8] d.size (fun kx s7 s8 wr => ∃ (u c : Nat) (dk : Array Nat), s7 = .int .i64 c ∧ s8 = .int .i64 ((c : Int) + 20) ∧ c = u * 20 ∧ c ≤ d.size ∧ d.size - c ≤ kx ∧ dk.size = d.size ∧ Aside (SWK enc k w0 blk off dk wr) ∧ Hid (Ph1 cf d.size u dk ∧ PermIn 0 d.size d dk))
  case atStart => exact ⟨0, 0, d, by go_num, by go_num, by omega, Nat.zero_le _, by omega, rfl, S0, B0⟩
  case round =>
    clear S0 B0
    obtain ⟨u, c, dk, rfl, rfl, hcu, hcn, hkx, hds, S1, HP⟩ := hrel
    have CU := Lib.hid hcu
    have DS := Lib.hid hds
    clear hcu
    by_cases hlt : c + 20 ≤ d.size
    · have hltz : (c : Int) + 20 ≤ (d.size : Int) := by omega
      have st := HP.out.1.step PRH.out (by rw [← CU.out]; exact hlt) rfl
      rw [← CU.out] at st
      have hcall := INS.out c (c + 20) dk wr hds.symm S1.out (by omega) (by omega) (by have := st.1.1; rw [DS.out]; exact this)
      rw [show ((c + 20 : Nat) : Int) = (c : Int) + 20 by omega, hds] at hcall
      have HCR := Lib.hid hcall
      have ST := Lib.hid st
      clear hcall S1 hds st
      go_wp2_with (go_at_fn 94; refine HCR.out.mono ?_; rintro e w1 ⟨rfl, S3⟩; have S4 : Aside _ := S3; clear S3)
      go_roundg (d.size - (c + 20))
      case measure => omega
      case rel =>
        refine ⟨u + 1, c + 20, _, by go_num, by first | go_num | (congr 1; omega), by rw [CU.out]; omega, hlt, Nat.le_refl _, ?_, S4, ⟨ST.out.1, permIn_trans _ _ _ _ _ HP.out.2 ST.out.2⟩⟩
        exact ST.out.1.1
    · have hltz : ¬ (c : Int) + 20 ≤ (d.size : Int) := by omega
      have st := HP.out.1.done PRH.out (by rw [← CU.out]; exact hcn) (by rw [← CU.out]; omega) rfl
      rw [← CU.out] at st
      have hcall := INS.out c d.size dk wr hds.symm S1.out hcn (by omega) (by have := st.1.1; rw [DS.out]; exact this)
      rw [hds] at hcall
      have HCR := Lib.hid hcall
      have ST : Hid (Stg cf 20 d.size (Sort.insertionSort (ltOf cf) dk c d.size) ∧ PermIn 0 d.size d (Sort.insertionSort (ltOf cf) dk c d.size)) := ⟨st.1, permIn_trans _ _ _ _ _ HP.out.2 st.2⟩
      clear hcall S1 hds st HP CU DS INS
      go_wp2_with (go_at_fn 94; refine HCR.out.mono ?_; rintro e w1 ⟨rfl, S3⟩; have S4 : Aside _ := S3; clear S3)
      clear HCR
      generalize Sort.insertionSort (ltOf cf) dk c d.size = dj at ST S4
      clear hkx hcn hlt hltz
      go_loopg [6] d.size (fun kx s6 wr => ∃ (s : Nat) (dk : Array Nat), s6 = .int .i64 s ∧ 20 ≤ s ∧ s ≤ 2 * d.size + 40 ∧ d.size - s ≤ kx ∧ dk.size = d.size ∧ Aside (SWK enc k w0 blk off dk wr) ∧ Hid (Stg cf s d.size dk ∧ PermIn 0 d.size d dk))
      case atStart => exact ⟨20, dj, by go_num, Nat.le_refl _, by omega, by omega, ST.out.1.1, S4, ST⟩
      case round =>
        clear S4 ST
        obtain ⟨s, dk, rfl, hs20, hsn, hkx, hds, S1, HP⟩ := hrel
        have DS := Lib.hid hds
        by_cases hlt : s < d.size
        · have hltz : (s : Int) < (d.size : Int) := by omega
          obtain ⟨S2, hS2, hS3⟩ : ∃ S2 : Nat, (2 : Int) * (s : Int) = (S2 : Int) ∧ S2 = 2 * s := ⟨2 * s, by omega, rfl⟩
          have hS4 : (s : Int) * 2 = (S2 : Int) := by omega
          have HS3 := Lib.hid hS3
          have hS5 : S2 < 2 * d.size := by omega
          have hS6 : 20 ≤ S2 := by omega
          have wS2 : IntKind.i64.wrap (S2 : Int) = (S2 : Int) := by rw [IntKind.wrap_i64]; omega
          clear hS3
          have PH0 : Hid (Ph2 cf s d.size 0 0 dk ∧ PermIn 0 d.size d dk) := ⟨Ph2.start HP.out.1, HP.out.2⟩
          clear HP
          go_wp2
          go_loopg [7, 8] d.size (fun ky s7 s8 wr => ∃ (u c B : Nat) (dl : Array Nat), s7 = .int .i64 c ∧ s8 = .int .i64 B ∧ Hid (B = c + S2) ∧ c ≤ d.size ∧ d.size - c ≤ ky ∧ dl.size = d.size ∧ Aside (SWK enc k w0 blk off dl wr) ∧ Hid (Ph2 cf s d.size u c dl ∧ PermIn 0 d.size d dl))
          case atStart => exact ⟨0, 0, S2, dk, by go_num, rfl, (Nat.zero_add _).symm, Nat.zero_le _, by omega, hds, S1, PH0⟩
          case round =>
            clear S1 PH0 DS hds
            obtain ⟨u, c, B, dl, rfl, rfl, hB, hcn, hky, hdl, S1, HP⟩ := hrel
            have DL := Lib.hid hdl
            have hBb : c + S2 ≤ B ∧ B ≤ c + S2 := by have := hB.out; omega
            obtain ⟨hBb1, hBb2⟩ := hBb
            have hB2 : Hid (c + 2 * s = B) := by have := hB.out; have := HS3.out; show _ = _; omega
            by_cases hl : B ≤ d.size
            · have hlz : (B : Int) ≤ (d.size : Int) := by omega
              have si := HP.out.1.sym (b := c + 2 * s) (by omega) (by omega) (by omega) (by have := hB2.out; omega)
              have hcall := SYM.out (c + 2 * s - c + 1) c (c + s) (c + 2 * s) dl wr (by omega) hdl.symm S1.out si
              rw [show ((c + s : Nat) : Int) = (c : Int) + (s : Int) by omega, hB2.out, hdl] at hcall
              have HCR := Lib.hid hcall
              have ST := Lib.hid (fun dm (hk : SymOk cf c B dl dm) => HP.out.1.step (by omega) (by have := hB2.out; omega) (show SymOk cf c (c + 2 * s) dl dm by rw [hB2.out]; exact hk))
              clear hcall S1 si hdl
              go_wp2_with (go_at_fn 95; refine HCR.out.mono ?_; rintro e w1 ⟨rfl, dm, HS, S3⟩; have HS1 := Lib.hid HS; clear HS; have S5 : Aside _ := S3; clear S3)
              go_roundg (d.size - B)
              case measure => omega
              case rel =>
                have q := ST.out dm HS1.out
                refine ⟨u + 1, B, B + S2, dm, rfl, by first | go_num | (congr 1; omega), rfl, hl, Nat.le_refl _, q.1.2.1, S5, ⟨?_, permIn_trans _ _ _ _ _ HP.out.2 q.2⟩⟩
                have q1 := q.1
                rwa [hB2.out] at q1
            · have hlz : ¬ (B : Int) ≤ (d.size : Int) := by omega
              by_cases hm : c + s < d.size
              · have hmz : (c : Int) + (s : Int) < (d.size : Int) := by omega
                have si := HP.out.1.sym (b := d.size) (by omega) hm (by omega) (Nat.le_refl _)
                have hcall := SYM.out (d.size - c + 1) c (c + s) d.size dl wr (by omega) hdl.symm S1.out si
                rw [show ((c + s : Nat) : Int) = (c : Int) + (s : Int) by omega, hdl] at hcall
                have HCR := Lib.hid hcall
                have ST := Lib.hid (fun dm (hk : SymOk cf c d.size dl dm) => HP.out.1.end hcn (by have := hB2.out; omega) hk)
                clear hcall S1 si hdl
                go_wp2_with (go_at_fn 95; refine HCR.out.mono ?_; rintro e w1 ⟨rfl, dm, HS, S3⟩; have HS1 := Lib.hid HS; clear HS; have S5 : Aside _ := S3; clear S3)
                go_roundg (d.size - S2)
                case measure => omega
                case rel =>
                  have q := ST.out dm HS1.out
                  rw [← HS3.out] at q
                  exact ⟨S2, dm, rfl, hS6, by omega, Nat.le_refl _, q.1.1, S5, ⟨q.1, permIn_trans _ _ _ _ _ HP.out.2 q.2⟩⟩
              · have hmz : ¬ (c : Int) + (s : Int) < (d.size : Int) := by omega
                have q := HP.out.1.end0 hcn (by have := hB2.out; omega) (by omega)
                rw [← HS3.out] at q
                have Q : Hid (Stg cf S2 d.size dl ∧ PermIn 0 d.size d dl) := ⟨q, HP.out.2⟩
                clear q HP hdl
                go_wp2_with fail
                go_roundg (d.size - S2)
                case measure => omega
                case rel => exact ⟨S2, dl, rfl, hS6, by omega, Nat.le_refl _, DL.out, S1, Q⟩
        · have hltz : ¬ (s : Int) < (d.size : Int) := by omega
          go_wp2
          go_end0
          exact ⟨rfl, dk, HP.out.1.sorted (by omega), HP.out.2, S1.out⟩

set_option maxHeartbeats 4000000 in
set_option maxRecDepth 1000000 in
theorem sortStable_any (L : LaySt P k) (cf : Nat → Nat → Int) (PR : Pre cf) (g : Nat) (cb : Array Value) (cap : Nat) (d : Array Nat) (w : World)
    (eg : ∀ args w, (callFunc g args).run P w = .ok (.enter g args) w) (hcmp : CmpLays P g cb enc k cf blk off d.size w0) (R : RowK enc k w0 blk off d) (S : SWK enc k w0 blk off d w) (hsz : d.size < 1152921504606846976)
    (hasc : ∀ x y, x < y → y < d.size → d[x]! < d[y]!) :
    Calls P 60 #[.slice (some ⟨blk, off, none⟩) d.size cap, .func (.func g) #[] cb] w fun e w' => e = .returned (.tuple #[]) ∧ ∃ d', SS cf 0 d.size d' ∧ PermIn 0 d.size d d' ∧ SWK enc k w0 blk off d' w' := by
  have mixed := L.mixed; have t0 := L.t0; have a0 := L.a0; have z0 := L.z0; have v0 := L.v0; have t3 := L.t3; have a3 := L.a3; have z3 := L.z3; have v3 := L.v3; have t4 := L.t4; have a4 := L.a4; have z4 := L.z4; have v4 := L.v4; have t92 := L.t92; have a92 := L.a92; have z92 := L.z92; have v92 := L.v92; have t99 := L.t99; have a99 := L.a99; have z99 := L.z99; have v99 := L.v99
  have FG := L.f60
  have e83 : ∀ args w, (callFunc 83 args).run P w = .ok (.enter 83 args) w := enters_of L.f83 rfl rfl
  have HCR := Lib.hid (stable_any L cf PR g cb cap d w eg hcmp R S hsz hasc)
  clear S L hcmp hasc R PR
  go_enter FG, Tryd.ntmps60
  go_wp2_with (go_at_fn 83; refine HCR.out.mono ?_; rintro e w1 ⟨rfl, dm, HS⟩; have HS1 := Lib.hid HS; clear HS)
  go_end0
  exact ⟨rfl, dm, HS1.out⟩
end Go.Proofs.YtbejikpopealdaaDoor
