/-
  laws.FnCommon, walked: whatever the two slices of bytes, the call returns true and nothing that was there has turned.
-/
import Derived.Test.YtbejikpopealdaaDoorPlainB
namespace Go.Proofs.YtbejikpopealdaaDoor
open Go.RowKit

theorem six_mapd {zs : List Int} (h : ∀ z ∈ zs, Byt z) (hs : sixB zs = true) : zs.length = 16 ∧ mapd zs = false := by
  unfold sixB at hs
  simp only [Bool.and_eq_true, beq_iff_eq, Bool.not_eq_true'] at hs
  exact ⟨hs.1, by rw [← four_mapd h hs.1]; exact hs.2⟩

set_option maxHeartbeats 1000000 in
theorem implCommon (p4 p6 : Addr) (a a' : Option Addr) (xs zs : List Int) (c c' : Nat) (hx : xs.length = 16) (hz : zs.length = 16) (hm : mapd zs = false) (w : World) (N : Net p4 p6 w) (h : HoldsB w a xs) (h' : HoldsB w a' zs) :
    Calls Tryd.prog 13 #[.slice a 16 c, .slice a' 16 c'] w fun e w' => e = .returned (.int .i64 (cplN xs zs)) ∧ Below w.heap.size w w' := by
  have Z := zzCommon p4 p6 a a' xs zs c c' hx hz hm w N h h' (halves_bd h.1)
  rw [bytes16_halves h.1 hx] at Z
  have Z' := Lib.hid Z
  clear Z hx hz hm N h h'
  go_enter Tryd.func13, Tryd.ntmps13
  go_wp2_with (go_at_call 28; refine Z'.out.mono ?_; rintro e w1 ⟨rfl, hg⟩; have HG := Lib.hid hg; clear hg)
  go_ret
  exact ⟨rfl, HG.out⟩

set_option maxHeartbeats 2000000 in
set_option maxRecDepth 100000 in
theorem fnCommon_six (p4 p6 : Addr) (a a' : Option Addr) (xs zs : List Int) (c c' : Nat) (s1 : sixB xs = true) (s2 : sixB zs = true) (w : World) (N : Net p4 p6 w) (h : HoldsB w a xs) (h' : HoldsB w a' zs) :
    Calls Tryd.prog 3 #[.slice a xs.length c, .slice a' zs.length c'] w fun e w' => e = .returned (.bool true) ∧ Below w.heap.size w w' := by
  obtain ⟨l1, m1⟩ := six_mapd h.1 s1
  obtain ⟨l2, m2⟩ := six_mapd h'.1 s2
  have S1 := Lib.hid (fun W g => six_any a xs c W (h.gr (w' := W) g))
  have S2 := Lib.hid (fun W g => six_any a' zs c' W (h'.gr (w' := W) g))
  rw [l1] at S1
  rw [l2] at S2
  rw [l1, l2]
  have E1 := Lib.hid s1
  have E2 := Lib.hid s2
  rw [s1] at S1
  rw [s2] at S2
  have IC := Lib.hid (fun W g => implCommon p4 p6 a a' xs zs c c' l1 l2 m2 W (N.gr (w' := W) g) (h.gr g) (h'.gr g))
  have SC : Hid (∀ W, Below w.heap.size w W → Calls Tryd.prog 14 #[.slice a 16 c, .slice a' 16 c'] W fun e w' => e = .returned (.int .i64 (cplN xs zs)) ∧ ∃ q, w' = W.drewN q) := fun W g => by
    obtain ⟨b1, h2⟩ := h.below g
    obtain ⟨b2, h2'⟩ := h'.below g
    rcases h2 with rfl | ⟨b, off, rfl, hb, C⟩
    · simp at l1
    rcases h2' with rfl | ⟨b', off', rfl, hb', C'⟩
    · simp at l2
    exact specCommon b off c b' off' c' 16 16 xs zs W (by omega) (by omega) (byt_getD b1) (byt_getD b2) (fun i hi => C i (by omega)) (fun i hi => C' i (by omega))
  clear N h h' s1 s2 l1 l2 m1 m2 E1 E2
  generalize cplN xs zs = r at *
  go_enter Tryd.func3, Tryd.ntmps3
  go_wp2_with (first
    | (go_at_call_of 12 (Value.slice a 16 c); refine (S1.out _ (Gr.refl _)).mono ?_; rintro e w1 ⟨rfl, hg⟩; have HG := Lib.hid hg; clear hg)
    | (go_at_call_of 12 (Value.slice a' 16 c'); refine (S2.out _ HG.out).mono ?_; rintro e w2 ⟨rfl, hg⟩; have HG2 := Lib.hid (HG.out.trans hg); clear hg)
    | (go_at_call 13; refine (IC.out _ HG2.out).mono ?_; rintro e w3 ⟨rfl, hg⟩; have HG3 := Lib.hid (HG2.out.below.trans (hg.mono HG2.out.size)); clear hg)
    | (go_at_call 14; refine (SC.out _ HG3.out).mono ?_; rintro e w4 ⟨rfl, q, rfl⟩))
  go_ret
  exact ⟨by simp, HG3.out.trans ⟨rfl, rfl, rfl, Nat.le_refl _, fun _ _ => rfl⟩⟩

set_option maxHeartbeats 1000000 in
theorem fnCommon_big1 (a a' : Option Addr) (n m c c' : Nat) (hb : 2147483647 < n) (w : World) :
    Calls Tryd.prog 3 #[.slice a n c, .slice a' m c'] w fun e w' => e = .returned (.bool true) ∧ Below w.heap.size w w' := by
  have hz : (2147483647 : Int) < (n : Int) := by omega
  go_enter Tryd.func3, Tryd.ntmps3
  go_wp2
  go_ret
  exact ⟨rfl, Below.refl _ _⟩
set_option maxHeartbeats 1000000 in
theorem fnCommon_big2 (a a' : Option Addr) (n m c c' : Nat) (ha : ¬ 2147483647 < n) (hb : 2147483647 < m) (w : World) :
    Calls Tryd.prog 3 #[.slice a n c, .slice a' m c'] w fun e w' => e = .returned (.bool true) ∧ Below w.heap.size w w' := by
  have hz : ¬ (2147483647 : Int) < (n : Int) := by omega
  have hz2 : (2147483647 : Int) < (m : Int) := by omega
  go_enter Tryd.func3, Tryd.ntmps3
  go_wp2
  go_ret
  exact ⟨rfl, Below.refl _ _⟩

set_option maxHeartbeats 1000000 in
theorem fnCommon_not1 (a a' : Option Addr) (xs : List Int) (n m c c' : Nat) (hn : n = xs.length) (ha : ¬ 2147483647 < n) (hb : ¬ 2147483647 < m) (s1 : sixB xs = false) (w : World) (h : HoldsB w a xs) :
    Calls Tryd.prog 3 #[.slice a n c, .slice a' m c'] w fun e w' => e = .returned (.bool true) ∧ Below w.heap.size w w' := by
  have hz : ¬ (2147483647 : Int) < (n : Int) := by omega
  have hz2 : ¬ (2147483647 : Int) < (m : Int) := by omega
  have S1 := six_any a xs c w h
  rw [← hn, s1] at S1
  have S1' := Lib.hid S1
  clear S1 hn s1 h
  go_enter Tryd.func3, Tryd.ntmps3
  go_wp2_with (go_at_call 12; refine S1'.out.mono ?_; rintro e w1 ⟨rfl, hg⟩; have HG := Lib.hid hg; clear hg)
  go_ret
  exact ⟨rfl, HG.out.below⟩

set_option maxHeartbeats 1000000 in
theorem fnCommon_not2 (a a' : Option Addr) (xs zs : List Int) (n m c c' : Nat) (hn : n = xs.length) (hm : m = zs.length) (ha : ¬ 2147483647 < n) (hb : ¬ 2147483647 < m) (s1 : sixB xs = true) (s2 : sixB zs = false) (w : World) (h : HoldsB w a xs) (h' : HoldsB w a' zs) :
    Calls Tryd.prog 3 #[.slice a n c, .slice a' m c'] w fun e w' => e = .returned (.bool true) ∧ Below w.heap.size w w' := by
  have hz : ¬ (2147483647 : Int) < (n : Int) := by omega
  have hz2 : ¬ (2147483647 : Int) < (m : Int) := by omega
  have S1 := six_any a xs c w h
  rw [← hn, s1] at S1
  have S1' := Lib.hid S1
  have S2 := fun W g => six_any a' zs c' W (h'.gr (w' := W) g)
  rw [← hm, s2] at S2
  have S2' := Lib.hid S2
  clear S1 hn s1 h S2 hm s2 h'
  go_enter Tryd.func3, Tryd.ntmps3
  go_wp2_with (first
    | (go_at_call_of 12 (Value.slice a n c); refine S1'.out.mono ?_; rintro e w1 ⟨rfl, hg⟩; have HG := Lib.hid hg; clear hg)
    | (go_at_call_of 12 (Value.slice a' m c'); refine (S2'.out _ HG.out).mono ?_; rintro e w2 ⟨rfl, hg⟩; have HG2 := Lib.hid (HG.out.trans hg); clear hg))
  go_ret
  exact ⟨rfl, HG2.out.below⟩

/-- laws.FnCommon, whatever the two slices of bytes. -/
theorem fnCommon_any (p4 p6 : Addr) (a a' : Option Addr) (xs zs : List Int) (c c' : Nat) (w : World) (N : Net p4 p6 w) (h : HoldsB w a xs) (h' : HoldsB w a' zs) :
    Calls Tryd.prog 3 #[.slice a xs.length c, .slice a' zs.length c'] w fun e w' => e = .returned (.bool true) ∧ Below w.heap.size w w' := by
  by_cases b1 : 2147483647 < xs.length
  · exact fnCommon_big1 a a' _ _ c c' b1 w
  by_cases b2 : 2147483647 < zs.length
  · exact fnCommon_big2 a a' _ _ c c' b1 b2 w
  cases s1 : sixB xs with
  | false => exact fnCommon_not1 a a' xs _ _ c c' rfl b1 b2 s1 w h
  | true =>
    cases s2 : sixB zs with
    | false => exact fnCommon_not2 a a' xs zs _ _ c c' rfl rfl b1 b2 s1 s2 w h h'
    | true => exact fnCommon_six p4 p6 a a' xs zs c c' s1 s2 w N h h'
end Go.Proofs.YtbejikpopealdaaDoor
