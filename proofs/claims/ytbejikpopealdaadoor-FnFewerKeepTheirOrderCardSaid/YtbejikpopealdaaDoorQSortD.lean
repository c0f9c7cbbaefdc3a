/-
  The stable sort of the library: insertion over a range; the merge where one side is one element, walked.
-/
import Derived.Test.YtbejikpopealdaaDoorQSortB
namespace Go.Proofs.YtbejikpopealdaaDoor
open Go.Shelf Go.RowKit Go.Lib Go.Sort

def sortRen : Ren := ⟨fun | 20 => 94 | n => n, fun | 22 => 92 | 24 => 97 | 25 => 99 | n => n, fun n => n⟩

theorem LaySt.ins {P : Program} {k : Nat} (L : LaySt P k) : SlLaysF0.n20 P sortRen :=
  ⟨L.mixed, ⟨Tryd.f94.name, by decide, L.f94.trans (by kernel_rfl)⟩, L.t0, L.a0, L.z0, L.v0, L.t3, L.a3, L.z3, L.v3, L.t4, L.a4, L.z4, L.v4, L.t92, L.a92, L.z92, L.v92, L.t99, L.a99, L.z99, L.v99⟩

variable {P : Program} {enc : Nat → List Value} {k : Nat} {w0 : World} {blk off : Nat}

theorem insertion_any (L : LaySt P k) (cf : Nat → Nat → Int) (g : Nat) (cb : Array Value) (cap a b : Nat) (d0 d : Array Nat) (w : World)
    (eg : ∀ args w, (callFunc g args).run P w = .ok (.enter g args) w) (hcmp : CmpLays P g cb enc k cf blk off d0.size w0) (R : RowK enc k w0 blk off d0) (hs : d0.size = d.size) (S : SWK enc k w0 blk off d w) (hab : a ≤ b) (hb : b ≤ d.size)
    (hsi : (Sort.insertionSort (ltOf cf) d a b).size = d.size) (hsz : d.size < 4611686018427387904) :
    Calls P 94 #[.slice (some ⟨blk, off, none⟩) d.size cap, .int .i64 a, .int .i64 b, .func (.func g) #[] cb] w fun e w' => e = .returned (.tuple #[]) ∧ SWK enc k w0 blk off (Sort.insertionSort (ltOf cf) d a b) w' := by
  have hC : CmpLays P g cb enc k cf blk off d.size w := fun m os dk hdk x y => by
    obtain ⟨n0, os0, rfl⟩ := S
    rw [sortWorldK_on enc k w0 blk off n0 m d dk os0 os R.hblk hdk]
    exact hcmp _ _ dk (by omega) x y
  refine (AnyQ.insertionSortCmpFunc (ρ := sortRen) L.ins k L.a97 L.z97 enc R.hk R.h1 cf g cb blk off cap a b d w eg hC (S.holds R.hblk R.hH hs.symm) (S.lt R.hblk) hab hb hsz).mono ?_
  rintro e w' ⟨rfl, n, os, rfl⟩
  exact ⟨rfl, S.on R.hblk n _ os hsi⟩

set_option maxHeartbeats 4000000 in
set_option maxRecDepth 1000000 in
theorem sym_left (L : LaySt P k) (cf : Nat → Nat → Int) (PR : Pre cf) (g : Nat) (cb : Array Value) (cap a m b : Nat) (d0 d : Array Nat) (w : World)
    (eg : ∀ args w, (callFunc g args).run P w = .ok (.enter g args) w) (hcmp : CmpLays P g cb enc k cf blk off d0.size w0) (R : RowK enc k w0 blk off d0) (hs : d0.size = d.size) (S : SWK enc k w0 blk off d w) (H : SymIn cf a m b d) (hm : m = a + 1) (hsz : d.size < 4611686018427387904) :
    Calls P 95 #[.slice (some ⟨blk, off, none⟩) d.size cap, .int .i64 a, .int .i64 m, .int .i64 b, .func (.func g) #[] cb] w fun e w' => e = .returned (.tuple #[]) ∧ ∃ d', SymOk cf a b d d' ∧ SWK enc k w0 blk off d' w' := by
  have mixed := L.mixed; have t0 := L.t0; have a0 := L.a0; have z0 := L.z0; have v0 := L.v0; have t3 := L.t3; have a3 := L.a3; have z3 := L.z3; have v3 := L.v3; have t4 := L.t4; have a4 := L.a4; have z4 := L.z4; have v4 := L.v4; have t87 := L.t87; have a87 := L.a87; have z87 := L.z87; have v87 := L.v87; have t92 := L.t92; have a92 := L.a92; have z92 := L.z92; have v92 := L.v92; have t99 := L.t99; have a99 := L.a99; have z99 := L.z99; have v99 := L.v99
  have aE := L.a97
  have zE := L.z97
  have FG := L.f95
  have HC : Aside _ := hcmp
  have S0 : Aside (SWK enc k w0 blk off d w) := S
  have HH := Lib.hid H
  have hmb := H.mb
  have hbs := H.bs
  have hm1 : ((m : Int) - (a : Int) == 1) = true := by rw [beq_iff_eq]; omega
  have B0 : Hid (Bs1 cf a m b d m b) := ⟨Nat.le_refl _, by omega, Nat.le_refl _, Or.inl rfl, Or.inl rfl⟩
  have HM := Lib.hid hm
  have ham : a < m := by omega
  clear S L H hcmp hm
  go_enter FG, Tryd.ntmps95
  go_wp2
  go_loopg [10, 11] (b - m) (fun kx s10 s11 wr => ∃ (i j : Nat), s10 = .int .i64 i ∧ s11 = .int .i64 j ∧ m ≤ i ∧ i ≤ j ∧ j ≤ b ∧ j - i ≤ kx ∧ Aside (SWK enc k w0 blk off d wr) ∧ Hid (Bs1 cf a m b d i j))
  case atStart => exact ⟨m, b, rfl, rfl, Nat.le_refl _, by omega, Nat.le_refl _, Nat.le_refl _, S0, B0⟩
  case round =>
    clear S0 B0
    obtain ⟨i, j, rfl, rfl, hmi, hij, hjb, hkx, S1, HB⟩ := hrel
    by_cases hlt : i < j
    · have hltz : (i : Int) < (j : Int) := by omega
      obtain ⟨h, hh, hh1, hh2⟩ : ∃ h : Nat, ((i : Int) + (j : Int)) / 2 = (h : Int) ∧ i ≤ h ∧ h < j := ⟨(i + j) / 2, by omega, by omega, by omega⟩
      have ea1 : ((h : Int)).toNat = h := by omega
      have pa1 : (0 : Int) ≤ (h : Int) := by omega
      have ba1 : (h : Int) < (d.size : Int) := by omega
      have ra1 : IntKind.i64.wrap ((h : Int)) = (h : Int) := by rw [IntKind.wrap_i64]; omega
      have ec1 : ((a : Int)).toNat = a := by omega
      have pc1 : (0 : Int) ≤ (a : Int) := by omega
      have bc1 : (a : Int) < (d.size : Int) := by omega
      have rc1 : IntKind.i64.wrap ((a : Int)) = (a : Int) := by rw [IntKind.wrap_i64]; omega
      obtain ⟨x1, hx1⟩ : ∃ x, x = d[h]! := ⟨_, rfl⟩
      obtain ⟨y1, hy1⟩ : ∃ x, x = d[a]! := ⟨_, rfl⟩
      have l1a := S1.out.ld R (by omega) P h (by omega)
      have l1b := S1.out.ld R (by omega) P a (by omega)
      rw [← hx1] at l1a
      rw [← hy1] at l1b
      have hc1 := S1.out.cmp HC.out (by omega) x1 y1
      have HX := Lib.hid (And.intro hx1 hy1)
      clear hx1 hy1
      by_cases hv1 : cf x1 y1 < 0
      · have HV := Lib.hid hv1
        go_wp2_with fail
        go_quiet_grown (first | (go_at_fn g; refine Calls.grown_of (hc1 _ _)))
        have S6 : Aside (SWK enc k w0 blk off d (grow (wr.drewN nq) osq)) := S1.out.grown nq osq
        clear l1a l1b hc1 S1
        generalize grow (wr.drewN nq) osq = w6 at S6 ⊢
        go_wp2
        go_roundg (j - (h + 1))
        case measure => omega
        case rel =>
          obtain ⟨q1, q2, q3, q4, q5⟩ := HB.out
          exact ⟨h + 1, j, by go_num, rfl, by omega, by omega, hjb, Nat.le_refl _, S6, ⟨by omega, by omega, hjb, Or.inr (by rw [Nat.add_sub_cancel, ← HX.out.1, ← HX.out.2]; exact decide_eq_true HV.out), q5⟩⟩
      · have HV := Lib.hid hv1
        go_wp2_with fail
        go_quiet_grown (first | (go_at_fn g; refine Calls.grown_of (hc1 _ _)))
        have S6 : Aside (SWK enc k w0 blk off d (grow (wr.drewN nq) osq)) := S1.out.grown nq osq
        clear l1a l1b hc1 S1
        generalize grow (wr.drewN nq) osq = w6 at S6 ⊢
        go_wp2
        go_roundg (h - i)
        case measure => omega
        case rel =>
          obtain ⟨q1, q2, q3, q4, q5⟩ := HB.out
          exact ⟨i, h, rfl, rfl, hmi, hh1, by omega, Nat.le_refl _, S6, ⟨hmi, hh1, by omega, q4, Or.inr (by rw [← HX.out.1, ← HX.out.2]; exact decide_eq_false (by have := HV.out; omega))⟩⟩
    · have hltz : ¬ (i : Int) < (j : Int) := by omega
      obtain rfl : i = j := by omega
      go_wp2
      go_loopg [13] (b - a) (fun kx s13 wr => ∃ (t : Nat) (dk : Array Nat), s13 = .int .i64 t ∧ a ≤ t ∧ t + 1 ≤ i ∧ i - t ≤ kx ∧ dk.size = d.size ∧ Aside (SWK enc k w0 blk off dk wr) ∧ Hid (Ch1 a b t d dk))
      case atStart => exact ⟨a, d, rfl, Nat.le_refl _, by omega, by omega, rfl, S1, Ch1.start a b d⟩
      case round =>
        clear S1
        obtain ⟨t, dk, rfl, hat, hti, hkx2, hds, S2, HR⟩ := hrel
        by_cases hlt2 : t + 1 < i
        · have hltz2 : (t : Int) < (i : Int) - 1 := by omega
          go_wp2_with fail
          have ea44 : ((t : Int)).toNat = t := by omega
          have pa44 : (0 : Int) ≤ (t : Int) := by omega
          have ba44 : (t : Int) < (d.size : Int) := by omega
          have ra44 : IntKind.i64.wrap ((t : Int)) = (t : Int) := by rw [IntKind.wrap_i64]; omega
          have ec44 : ((t : Int) + 1).toNat = t + 1 := by omega
          have pc44 : (0 : Int) ≤ (t : Int) + 1 := by omega
          have bc44 : (t : Int) + 1 < (d.size : Int) := by omega
          have rc44 : IntKind.i64.wrap ((t : Int) + 1) = (t : Int) + 1 := by rw [IntKind.wrap_i64]; omega
          have S3 : Aside (SWK enc k w0 blk off (swp dk t (t + 1)) ((wr.drew.setCells blk (off + t * k) (enc dk[t + 1]!)).setCells blk (off + (t + 1) * k) (enc dk[t]!))) := S2.out.swapped R t (t + 1) (by omega) (by omega)
          have l44a := S2.out.ld1 R (by omega) P t (by omega)
          have l44b := S2.out.ld1 R (by omega) P (t + 1) (by omega)
          have s44a := S2.out.st1 R (by omega) P t (by omega) dk[t + 1]!
          have s44b := S2.out.st2 R (by omega) P t (t + 1) (by omega) (by omega) dk[t + 1]! dk[t]!
          have n44a : (enc dk[t]!).length = k := R.hk _
          have n44b : (enc dk[t + 1]!).length = k := R.hk _
          generalize enc dk[t]! = cI44 at S3 l44a s44b n44a
          generalize enc dk[t + 1]! = cJ44 at S3 l44b s44a s44b n44b
          clear S2
          go_wp2_with fail
          go_big_region_o
          clear l44a l44b s44a s44b
          generalize (wr.drew.setCells blk (off + t * k) cJ44).setCells blk (off + (t + 1) * k) cI44 = w2 at S3 ⊢
          go_wp2
          go_roundg (i - (t + 1))
          case measure => omega
          case rel => exact ⟨t + 1, swp dk t (t + 1), by go_num, by omega, hlt2, Nat.le_refl _, by rw [size_swp]; exact hds, S3, HR.out.step hat (by omega) hbs⟩
        · have hltz2 : ¬ (t : Int) < (i : Int) - 1 := by omega
          go_wp2
          (try simp only [Exit.inBlock, Exit.then]); refine bodyPost_ret (results_none rfl _ _ _) rfl ?_
          have hm := HM.out
          subst hm
          have et : t = i - 1 := by omega
          subst et
          exact ⟨rfl, dk, one_left PR HH.out HB.out HR.out, S2.out⟩
end Go.Proofs.YtbejikpopealdaaDoor
/-
  The stable sort of the library: the merge where the right side is one element, walked.
-/
namespace Go.Proofs.YtbejikpopealdaaDoor
open Go.Shelf Go.RowKit Go.Lib Go.Sort
variable {P : Program} {enc : Nat → List Value} {k : Nat} {w0 : World} {blk off : Nat}

set_option maxHeartbeats 4000000 in
set_option maxRecDepth 1000000 in
theorem sym_right (L : LaySt P k) (cf : Nat → Nat → Int) (PR : Pre cf) (g : Nat) (cb : Array Value) (cap a m b : Nat) (d0 d : Array Nat) (w : World)
    (eg : ∀ args w, (callFunc g args).run P w = .ok (.enter g args) w) (hcmp : CmpLays P g cb enc k cf blk off d0.size w0) (R : RowK enc k w0 blk off d0) (hs : d0.size = d.size) (S : SWK enc k w0 blk off d w) (H : SymIn cf a m b d) (hn : m ≠ a + 1) (hm : b = m + 1) (hsz : d.size < 4611686018427387904) :
    Calls P 95 #[.slice (some ⟨blk, off, none⟩) d.size cap, .int .i64 a, .int .i64 m, .int .i64 b, .func (.func g) #[] cb] w fun e w' => e = .returned (.tuple #[]) ∧ ∃ d', SymOk cf a b d d' ∧ SWK enc k w0 blk off d' w' := by
  have mixed := L.mixed; have t0 := L.t0; have a0 := L.a0; have z0 := L.z0; have v0 := L.v0; have t3 := L.t3; have a3 := L.a3; have z3 := L.z3; have v3 := L.v3; have t4 := L.t4; have a4 := L.a4; have z4 := L.z4; have v4 := L.v4; have t87 := L.t87; have a87 := L.a87; have z87 := L.z87; have v87 := L.v87; have t92 := L.t92; have a92 := L.a92; have z92 := L.z92; have v92 := L.v92; have t99 := L.t99; have a99 := L.a99; have z99 := L.z99; have v99 := L.v99
  have aE := L.a97
  have zE := L.z97
  have FG := L.f95
  have HC : Aside _ := hcmp
  have S0 : Aside (SWK enc k w0 blk off d w) := S
  have HH := Lib.hid H
  have hmb := H.mb
  have hbs := H.bs
  have ham := H.am
  have hm0 : ((m : Int) - (a : Int) == 1) = false := by rw [beq_eq_false_iff_ne]; omega
  have hm1 : ((b : Int) - (m : Int) == 1) = true := by rw [beq_iff_eq]; omega
  have B0 : Hid (Bs2 cf a m d a m) := ⟨Nat.le_refl _, by omega, Nat.le_refl _, Or.inl rfl, Or.inl rfl⟩
  have HM := Lib.hid hm
  clear S L H hcmp hm hn
  go_enter FG, Tryd.ntmps95
  go_wp2
  go_loopg [14, 15] (m - a) (fun kx s14 s15 wr => ∃ (i j : Nat), s14 = .int .i64 i ∧ s15 = .int .i64 j ∧ a ≤ i ∧ i ≤ j ∧ j ≤ m ∧ j - i ≤ kx ∧ Aside (SWK enc k w0 blk off d wr) ∧ Hid (Bs2 cf a m d i j))
  case atStart => exact ⟨a, m, rfl, rfl, Nat.le_refl _, by omega, Nat.le_refl _, Nat.le_refl _, S0, B0⟩
  case round =>
    clear S0 B0
    obtain ⟨i, j, rfl, rfl, hmi, hij, hjb, hkx, S1, HB⟩ := hrel
    by_cases hlt : i < j
    · have hltz : (i : Int) < (j : Int) := by omega
      obtain ⟨h, hh, hh1, hh2⟩ : ∃ h : Nat, ((i : Int) + (j : Int)) / 2 = (h : Int) ∧ i ≤ h ∧ h < j := ⟨(i + j) / 2, by omega, by omega, by omega⟩
      have ea1 : ((h : Int)).toNat = h := by omega
      have pa1 : (0 : Int) ≤ (h : Int) := by omega
      have ba1 : (h : Int) < (d.size : Int) := by omega
      have ra1 : IntKind.i64.wrap ((h : Int)) = (h : Int) := by rw [IntKind.wrap_i64]; omega
      have ec1 : ((m : Int)).toNat = m := by omega
      have pc1 : (0 : Int) ≤ (m : Int) := by omega
      have bc1 : (m : Int) < (d.size : Int) := by omega
      have rc1 : IntKind.i64.wrap ((m : Int)) = (m : Int) := by rw [IntKind.wrap_i64]; omega
      obtain ⟨x1, hx1⟩ : ∃ x, x = d[m]! := ⟨_, rfl⟩
      obtain ⟨y1, hy1⟩ : ∃ x, x = d[h]! := ⟨_, rfl⟩
      have l1a := S1.out.ld R (by omega) P m (by omega)
      have l1b := S1.out.ld R (by omega) P h (by omega)
      rw [← hx1] at l1a
      rw [← hy1] at l1b
      have hc1 := S1.out.cmp HC.out (by omega) x1 y1
      have HX := Lib.hid (And.intro hx1 hy1)
      clear hx1 hy1
      by_cases hv1 : cf x1 y1 < 0
      · have HV := Lib.hid hv1
        have hd1 : decide (cf x1 y1 < 0) = true := decide_eq_true hv1
        go_wp2_with fail
        go_quiet_grown (first | (go_at_fn g; refine Calls.grown_of (hc1 _ _)))
        have S6 : Aside (SWK enc k w0 blk off d (grow (wr.drewN nq) osq)) := S1.out.grown nq osq
        clear l1a l1b hc1 S1
        generalize grow (wr.drewN nq) osq = w6 at S6 ⊢
        go_wp2
        go_roundg (h - i)
        case measure => omega
        case rel =>
          obtain ⟨q1, q2, q3, q4, q5⟩ := HB.out
          exact ⟨i, h, rfl, rfl, hmi, hh1, by omega, Nat.le_refl _, S6, ⟨hmi, hh1, by omega, q4, Or.inr (by rw [← HX.out.1, ← HX.out.2]; exact decide_eq_true HV.out)⟩⟩
      · have HV := Lib.hid hv1
        have hd1 : decide (cf x1 y1 < 0) = false := decide_eq_false hv1
        go_wp2_with fail
        go_quiet_grown (first | (go_at_fn g; refine Calls.grown_of (hc1 _ _)))
        have S6 : Aside (SWK enc k w0 blk off d (grow (wr.drewN nq) osq)) := S1.out.grown nq osq
        clear l1a l1b hc1 S1
        generalize grow (wr.drewN nq) osq = w6 at S6 ⊢
        go_wp2
        go_roundg (j - (h + 1))
        case measure => omega
        case rel =>
          obtain ⟨q1, q2, q3, q4, q5⟩ := HB.out
          exact ⟨h + 1, j, by go_num, rfl, by omega, by omega, hjb, Nat.le_refl _, S6, ⟨by omega, by omega, hjb, Or.inr (by rw [Nat.add_sub_cancel, ← HX.out.1, ← HX.out.2]; exact decide_eq_false (by have := HV.out; omega)), q5⟩⟩
    · have hltz : ¬ (i : Int) < (j : Int) := by omega
      obtain rfl : i = j := by omega
      go_wp2
      go_loopg [17] (m - a) (fun kx s17 wr => ∃ (t : Nat) (dk : Array Nat), s17 = .int .i64 t ∧ i ≤ t ∧ t ≤ m ∧ t - i ≤ kx ∧ dk.size = d.size ∧ Aside (SWK enc k w0 blk off dk wr) ∧ Hid (Ch2 a m t d dk))
      case atStart => exact ⟨m, d, rfl, by omega, Nat.le_refl _, by omega, rfl, S1, Ch2.start a m d⟩
      case round =>
        clear S1
        obtain ⟨t, dk, rfl, hat, hti, hkx2, hds, S2, HR⟩ := hrel
        by_cases hlt2 : i < t
        · obtain ⟨tp, rfl⟩ : ∃ tp, t = tp + 1 := ⟨t - 1, by omega⟩
          have hltz2 : (i : Int) < (tp : Int) + 1 := by omega
          have hwp : IntKind.i64.wrap (tp : Int) = (tp : Int) := by rw [IntKind.wrap_i64]; omega
          go_wp2_with fail
          have ea44 : ((tp : Int) + 1).toNat = tp + 1 := by omega
          have pa44 : (0 : Int) ≤ (tp : Int) + 1 := by omega
          have ba44 : (tp : Int) + 1 < (d.size : Int) := by omega
          have ra44 : IntKind.i64.wrap ((tp : Int) + 1) = (tp : Int) + 1 := by rw [IntKind.wrap_i64]; omega
          have ec44 : ((tp : Int)).toNat = tp := by omega
          have pc44 : (0 : Int) ≤ (tp : Int) := by omega
          have bc44 : (tp : Int) < (d.size : Int) := by omega
          have S3 : Aside (SWK enc k w0 blk off (swp dk (tp + 1) tp) ((wr.drew.setCells blk (off + (tp + 1) * k) (enc dk[tp]!)).setCells blk (off + tp * k) (enc dk[tp + 1]!))) := S2.out.swapped R (tp + 1) tp (by omega) (by omega)
          have l44a := S2.out.ld1 R (by omega) P (tp + 1) (by omega)
          have l44b := S2.out.ld1 R (by omega) P tp (by omega)
          have s44a := S2.out.st1 R (by omega) P (tp + 1) (by omega) dk[tp]!
          have s44b := S2.out.st2 R (by omega) P (tp + 1) tp (by omega) (by omega) dk[tp]! dk[tp + 1]!
          have n44a : (enc dk[tp + 1]!).length = k := R.hk _
          have n44b : (enc dk[tp]!).length = k := R.hk _
          generalize enc dk[tp + 1]! = cI44 at S3 l44a s44b n44a
          generalize enc dk[tp]! = cJ44 at S3 l44b s44a s44b n44b
          clear S2
          go_wp2_with fail
          go_big_region_o
          clear l44a l44b s44a s44b
          generalize (wr.drew.setCells blk (off + (tp + 1) * k) cJ44).setCells blk (off + tp * k) cI44 = w2 at S3 ⊢
          go_wp2
          go_roundg (tp - i)
          case measure => omega
          case rel => exact ⟨tp, swp dk (tp + 1) tp, by first | rfl | go_num | (congr 1; omega), by omega, by omega, Nat.le_refl _, by rw [size_swp]; exact hds, S3, HR.out.step (by omega) hti (by omega)⟩
        · have hltz2 : ¬ (i : Int) < (t : Int) := by omega
          go_wp2
          (try simp only [Exit.inBlock, Exit.then]); refine bodyPost_ret (results_none rfl _ _ _) rfl ?_
          have hm := HM.out
          subst hm
          obtain rfl : i = t := by omega
          exact ⟨rfl, dk, one_right PR HH.out HB.out HR.out, S2.out⟩
end Go.Proofs.YtbejikpopealdaaDoor
