/-
  laws.FnScope, walked: whatever the slice of bytes, the call returns true and nothing that was there has turned.
-/
import Derived.Test.YtbejikpopealdaaDoorQPlainC
namespace Go.Proofs.YtbejikpopealdaaDoor
open Go.RowKit

theorem famOf_some {zs : List Int} (hl : zs.length = 4 ∨ zs.length = 16) : (famOf zs).isSome = true := by
  unfold famOf
  rcases hl with hl | hl
  · rw [if_pos hl]; rfl
  · rw [if_neg (by omega), if_pos hl]; rfl

theorem and15_bd (x : Int) : 0 ≤ x % 16 ∧ x % 16 < 256 := by omega
theorem scopeV_bd (k : Option Bool) (hi lo : Int) : 0 ≤ scopeV k hi lo ∧ scopeV k hi lo < 256 := by
  unfold scopeV scope4 scope6
  have := and15_bd (hi / 281474976710656)
  repeat' split
  all_goals omega

set_option maxHeartbeats 1000000 in
set_option maxRecDepth 100000 in
theorem zzScope (p4 p6 : Addr) (a : Option Addr) (zs : List Int) (c : Nat) (hl : zs.length = 4 ∨ zs.length = 16) (w : World) (N : Net p4 p6 w) (h : HoldsB w a zs) :
    Calls Tryd.prog 29 #[.slice a zs.length c] w fun e w' => e = .returned (.int .i64 (scopeS (wide zs))) ∧ Gr w w' := by
  have FS := Lib.hid (fromSlice p4 p6 a zs c w N h)
  obtain ⟨b1, b2, b3, b4⟩ := halves_bd h.1
  have hs := famOf_some hl
  have CL := Lib.hid (fun W g => classify_any p4 p6 (famOf zs) (hiOf zs) (loOf zs) W (N.gr (w' := W) g) b3 b4 b1 b2 hs)
  obtain ⟨s0, s1⟩ := scopeV_bd (famOf zs) (hiOf zs) (loOf zs)
  rw [scope_eq h.1 hl] at CL s0 s1
  generalize scopeS (wide zs) = s at *
  generalize hiOf zs = hi at *
  generalize loOf zs = lo at *
  obtain ⟨n, hn⟩ : ∃ n, n = zs.length := ⟨_, rfl⟩
  rw [← hn] at FS ⊢
  clear N h b1 b2 b3 b4 hs hl hn
  go_enter Tryd.func29, Tryd.ntmps29
  go_wp2_with fail
  refine FS.out.mono ?_
  rintro e w1 ⟨rfl, hg⟩
  have HG := Lib.hid hg
  clear hg
  go_wp2_with fail
  refine (CL.out _ (HG.out.alloc _)).mono ?_
  rintro e w2 ⟨rfl, hg⟩
  have HG2 : Hid (Gr w w2) := (HG.out.alloc _).trans hg
  clear hg
  go_wp2_with fail
  go_ret
  exact ⟨by first | rfl | simp, HG2.out⟩

set_option maxHeartbeats 1000000 in
theorem implScope (p4 p6 : Addr) (a : Option Addr) (zs : List Int) (c : Nat) (hl : zs.length = 4 ∨ zs.length = 16) (w : World) (N : Net p4 p6 w) (h : HoldsB w a zs) :
    Calls Tryd.prog 16 #[.slice a zs.length c] w fun e w' => e = .returned (.int .i64 (scopeS (wide zs))) ∧ Gr w w' := by
  have Z := Lib.hid (zzScope p4 p6 a zs c hl w N h)
  generalize scopeS (wide zs) = s at *
  obtain ⟨n, hn⟩ : ∃ n, n = zs.length := ⟨_, rfl⟩
  rw [← hn] at Z ⊢
  clear hl N h hn
  go_enter Tryd.func16, Tryd.ntmps16
  go_wp2_with fail
  refine Z.out.mono ?_
  rintro e w1 ⟨rfl, hg⟩
  have HG := Lib.hid hg
  clear hg
  go_wp2_with fail
  go_ret
  exact ⟨rfl, HG.out⟩

set_option maxHeartbeats 1000000 in
theorem fnScope_big (a : Option Addr) (n c : Nat) (hb : 2147483647 < n) (w : World) :
    Calls Tryd.prog 4 #[.slice a n c] w fun e w' => e = .returned (.bool true) ∧ Below w.heap.size w w' := by
  have hz : (2147483647 : Int) < (n : Int) := by omega
  go_enter Tryd.func4, Tryd.ntmps4
  go_wp2
  go_ret
  exact ⟨rfl, Below.refl _ _⟩

set_option maxHeartbeats 1000000 in
theorem fnScope_no (a : Option Addr) (n c : Nat) (hb : ¬ 2147483647 < n) (h4 : n ≠ 4) (h16 : n ≠ 16) (w : World) :
    Calls Tryd.prog 4 #[.slice a n c] w fun e w' => e = .returned (.bool true) ∧ Below w.heap.size w w' := by
  have hz : ¬ (2147483647 : Int) < (n : Int) := by omega
  have I := is_any a n c w
  rw [show (n == 4 || n == 16) = false by simp [h4, h16]] at I
  have I' := Lib.hid I
  clear h4 h16 I
  go_enter Tryd.func4, Tryd.ntmps4
  go_wp2_with (go_at_call 15; refine I'.out.mono ?_; rintro e w1 ⟨rfl, rfl⟩)
  go_ret
  exact ⟨rfl, Below.refl _ _⟩

set_option maxHeartbeats 1000000 in
theorem fnScope_yes (p4 p6 : Addr) (a : Option Addr) (zs : List Int) (n c : Nat) (hn : n = zs.length) (hl : zs.length = 4 ∨ zs.length = 16) (hc : zs.length ≤ c) (w : World) (N : Net p4 p6 w) (h : HoldsB w a zs) :
    Calls Tryd.prog 4 #[.slice a n c] w fun e w' => e = .returned (.bool true) ∧ Below w.heap.size w w' := by
  have hz : ¬ (2147483647 : Int) < (n : Int) := by omega
  have I := is_any a n c w
  rw [show (n == 4 || n == 16) = true by rcases hl with hl | hl <;> simp [hn, hl]] at I
  have I' := Lib.hid I
  have Z := implScope p4 p6 a zs c hl w N h
  have S := fun W g => specScope a zs c hl hc W (h.gr (w' := W) g)
  rw [← hn] at Z S
  have Z' := Lib.hid Z
  have S' := Lib.hid S
  generalize scopeS (wide zs) = s at *
  clear I Z S hl hc N h hn
  go_enter Tryd.func4, Tryd.ntmps4
  go_wp2_with (first
    | (go_at_call 15; refine I'.out.mono ?_; rintro e w1 ⟨rfl, rfl⟩)
    | (go_at_call 16; refine Z'.out.mono ?_; rintro e w1 ⟨rfl, hg⟩; have HG := Lib.hid hg; clear hg)
    | (go_at_call 17; refine (S'.out _ HG.out).mono ?_; rintro e w2 ⟨rfl, hg⟩; have HG2 := Lib.hid hg; clear hg))
  go_ret
  exact ⟨by simp, HG.out.below.trans (HG2.out.mono HG.out.size)⟩

/-- laws.FnScope, whatever the slice of bytes. -/
theorem fnScope_walk (p4 p6 : Addr) (a : Option Addr) (zs : List Int) (c : Nat) (w : World) (N : Net p4 p6 w) (hc : zs.length ≤ c) (_ : c ≤ maxLen) (h : HoldsB w a zs) :
    Calls Tryd.prog 4 #[.slice a zs.length c] w fun e w' => e = .returned (.bool true) ∧ Below w.heap.size w w' := by
  by_cases b1 : 2147483647 < zs.length
  · exact fnScope_big a _ c b1 w
  by_cases h4 : zs.length = 4
  · exact fnScope_yes p4 p6 a zs _ c rfl (Or.inl h4) hc w N h
  by_cases h16 : zs.length = 16
  · exact fnScope_yes p4 p6 a zs _ c rfl (Or.inr h16) hc w N h
  · exact fnScope_no a _ c b1 h4 h16 w
end Go.Proofs.YtbejikpopealdaaDoor
