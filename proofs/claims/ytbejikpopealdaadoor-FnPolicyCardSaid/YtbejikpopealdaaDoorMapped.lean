/-
  impl.Policy and laws.FnMappedIsTheSame, walked: whatever the slice of bytes, the call returns true.
-/
import Derived.Test.YtbejikpopealdaaDoorPlainD
namespace Go.Proofs.YtbejikpopealdaaDoor
open Go.RowKit

set_option maxHeartbeats 1000000 in
theorem implPolicy (p4 p6 : Addr) (a : Option Addr) (zs : List Int) (c : Nat) (hl : zs.length = 4 ∨ zs.length = 16) (w : World) (N : Net p4 p6 w) (h : HoldsB w a zs) :
    Calls Tryd.prog 18 #[.slice a zs.length c] w (PolEnd (hiOf zs) (loOf zs) w) := by
  have Z := Lib.hid (zzPolicy p4 p6 a zs c hl w N h)
  generalize hiOf zs = hi at *
  generalize loOf zs = lo at *
  obtain ⟨n, hn⟩ : ∃ n, n = zs.length := ⟨_, rfl⟩
  rw [← hn] at Z ⊢
  clear hl N h hn
  go_enter Tryd.func18, Tryd.ntmps18
  go_wp2_with fail
  refine Z.out.mono ?_
  rintro e w1 ⟨tp, tla, HK, rfl, hg⟩
  have HG := Lib.hid hg
  clear hg
  go_wp2_with fail
  go_ret2
  exact ⟨tp, tla, HK, rfl, HG.out⟩

set_option maxHeartbeats 1000000 in
theorem fnMapped_big (a : Option Addr) (n c : Nat) (hb : 2147483647 < n) (w : World) :
    Calls Tryd.prog 6 #[.slice a n c] w fun e w' => e = .returned (.bool true) ∧ Below w.heap.size w w' := by
  have hz : (2147483647 : Int) < (n : Int) := by omega
  go_enter Tryd.func6, Tryd.ntmps6
  go_wp2
  go_ret
  exact ⟨rfl, Below.refl _ _⟩

set_option maxHeartbeats 1000000 in
theorem fnMapped_no (a : Option Addr) (n c : Nat) (hb : ¬ 2147483647 < n) (h4 : n ≠ 4) (w : World) :
    Calls Tryd.prog 6 #[.slice a n c] w fun e w' => e = .returned (.bool true) ∧ Below w.heap.size w w' := by
  have hz : ¬ (2147483647 : Int) < (n : Int) := by omega
  have k4 : ((n : Int) == 4) = false := by rw [beq_eq_false_iff_ne]; omega
  have k4' : ((n : Int) != 4) = true := by rw [bne, k4]; rfl
  clear h4
  go_enter Tryd.func6, Tryd.ntmps6
  go_wp2
  go_ret
  exact ⟨rfl, Below.refl _ _⟩

set_option maxHeartbeats 2000000 in
set_option maxRecDepth 100000 in
theorem fnMapped_yes (p4 p6 : Addr) (a : Option Addr) (zs : List Int) (c : Nat) (hl : zs.length = 4) (w : World) (N : Net p4 p6 w) (h : HoldsB w a zs) :
    Calls Tryd.prog 6 #[.slice a 4 c] w fun e w' => e = .returned (.bool true) ∧ Below w.heap.size w w' := by
  have W := wide_4 a zs c hl w h
  have WL : (wide zs).length = 16 := wide_len (Or.inl hl)
  have WW : wide (wide zs) = wide zs := by
    have : ∀ ys : List Int, ys.length = 16 → wide ys = ys := fun ys hy => by unfold wide; rw [if_neg (by omega)]
    exact this _ WL
  obtain ⟨e1, e2, e3, e4⟩ := halves_wide h.1 hl
  have P1 := fun W' (g : Below w.heap.size w W') (N' : Net p4 p6 W') (h' : HoldsB W' a zs) => implPolicy p4 p6 a zs c (Or.inl hl) W' N' h'
  have P2 := fun W' b c' (N' : Net p4 p6 W') (h' : HoldsB W' b (wide zs)) => implPolicy p4 p6 b (wide zs) c' (Or.inr WL) W' N' h'
  have S1 := fun W' (N' : Net p4 p6 W') (h' : HoldsB W' a zs) => implScope p4 p6 a zs c (Or.inl hl) W' N' h'
  have S2 := fun W' b c' (N' : Net p4 p6 W') (h' : HoldsB W' b (wide zs)) => implScope p4 p6 b (wide zs) c' (Or.inr WL) W' N' h'
  rw [hl] at P1 S1
  rw [WL] at P2 S2
  rw [WW] at S2
  rw [e1, e2, e3] at P2
  rw [e3] at P1
  generalize scopeS (wide zs) = s at *
  have FU := Lib.hid (fun p l p' l' (h : Found 0 (loOf zs) p l) (k : Found 0 (loOf zs) p' l') => h.unique k)
  have F4 := Lib.hid (fun p l (h : Found 0 (loOf zs) p l) => h.four e4)
  generalize loOf zs = lo at *
  have W' := Lib.hid W
  have P1' := Lib.hid P1
  have P2' := Lib.hid P2
  have S1' := Lib.hid S1
  have S2' := Lib.hid S2
  have NN := Lib.hid N
  have HH := Lib.hid h
  clear W P1 P2 S1 S2 N h e1 e2 e3 e4 WL WW hl
  go_enter Tryd.func6, Tryd.ntmps6
  go_wp2_with fail
  refine W'.out.mono ?_
  rintro e w1 ⟨b, cb, rfl, hcb, hwb, bel⟩
  have N1 := Lib.hid (NN.out.below bel)
  have H1 := Lib.hid (HH.out.below bel)
  have B1 := Lib.hid bel
  have HW1 := Lib.hid hwb
  clear bel hwb
  go_wp2_with fail
  refine (P1'.out _ B1.out N1.out H1.out).mono ?_
  rintro e w2 ⟨p, l, HF, rfl, hg⟩
  have HG2 := Lib.hid hg
  clear hg
  go_wp2_with fail
  refine (P2'.out _ _ _ (N1.out.gr HG2.out) (HW1.out.gr HG2.out)).mono ?_
  rintro e w3 ⟨p', l', HF', rfl, hg⟩
  obtain ⟨rfl, rfl⟩ := FU.out _ _ _ _ HF.out HF'.out
  have hp := F4.out _ _ HF.out
  subst hp
  have HG3 := Lib.hid (HG2.out.trans hg)
  clear hg
  go_wp2_with fail
  refine (S1'.out _ (N1.out.gr HG3.out) (H1.out.gr HG3.out)).mono ?_
  rintro e w4 ⟨rfl, hg⟩
  have HG4 := Lib.hid (HG3.out.trans hg)
  clear hg
  go_wp2_with fail
  refine (S2'.out _ _ _ (N1.out.gr HG4.out) (HW1.out.gr HG4.out)).mono ?_
  rintro e w5 ⟨rfl, hg⟩
  have HG5 := Lib.hid (HG4.out.trans hg)
  clear hg
  go_wp2_with fail
  go_ret
  exact ⟨by simp, B1.out.trans (HG5.out.below.mono B1.out.size)⟩

/-- laws.FnMappedIsTheSame, whatever the slice of bytes. -/
theorem fnMapped_walk (p4 p6 : Addr) (a : Option Addr) (zs : List Int) (c : Nat) (w : World) (N : Net p4 p6 w) (_ : zs.length ≤ c) (_ : c ≤ maxLen) (h : HoldsB w a zs) :
    Calls Tryd.prog 6 #[.slice a zs.length c] w fun e w' => e = .returned (.bool true) ∧ Below w.heap.size w w' := by
  by_cases b1 : 2147483647 < zs.length
  · exact fnMapped_big a _ c b1 w
  by_cases h4 : zs.length = 4
  · have := fnMapped_yes p4 p6 a zs c h4 w N h
    rwa [← h4] at this
  · exact fnMapped_no a _ c b1 h4 w
end Go.Proofs.YtbejikpopealdaaDoor
