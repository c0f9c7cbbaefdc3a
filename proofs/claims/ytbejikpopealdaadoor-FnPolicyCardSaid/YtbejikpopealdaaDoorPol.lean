/-
  laws.FnPolicy, walked: whatever the slice of bytes, the call returns true and nothing that was there has turned.
-/
import Derived.Test.YtbejikpopealdaaDoorMapped
import Derived.Test.YtbejikpopealdaaDoorPlainE
namespace Go.Proofs.YtbejikpopealdaaDoor
open Go.RowKit

set_option maxHeartbeats 1000000 in
theorem fnPolicy_big (a : Option Addr) (n c : Nat) (hb : 2147483647 < n) (w : World) :
    Calls Tryd.prog 5 #[.slice a n c] w fun e w' => e = .returned (.bool true) ∧ Below w.heap.size w w' := by
  have hz : (2147483647 : Int) < (n : Int) := by omega
  go_enter Tryd.func5, Tryd.ntmps5
  go_wp2
  go_ret
  exact ⟨rfl, Below.refl _ _⟩

set_option maxHeartbeats 1000000 in
theorem fnPolicy_no (a : Option Addr) (n c : Nat) (hb : ¬ 2147483647 < n) (h4 : n ≠ 4) (h16 : n ≠ 16) (w : World) :
    Calls Tryd.prog 5 #[.slice a n c] w fun e w' => e = .returned (.bool true) ∧ Below w.heap.size w w' := by
  have hz : ¬ (2147483647 : Int) < (n : Int) := by omega
  have I := is_any a n c w
  rw [show (n == 4 || n == 16) = false by simp [h4, h16]] at I
  have I' := Lib.hid I
  clear h4 h16 I
  go_enter Tryd.func5, Tryd.ntmps5
  go_wp2_with (go_at_call 15; refine I'.out.mono ?_; rintro e w1 ⟨rfl, rfl⟩)
  go_ret
  exact ⟨rfl, Below.refl _ _⟩

set_option maxHeartbeats 1000000 in
theorem fnPolicy_yes (p4 p6 : Addr) (a : Option Addr) (zs : List Int) (n c : Nat) (hn : n = zs.length) (hl : zs.length = 4 ∨ zs.length = 16) (hc : zs.length ≤ c) (w : World) (N : Net p4 p6 w) (h : HoldsB w a zs) :
    Calls Tryd.prog 5 #[.slice a n c] w fun e w' => e = .returned (.bool true) ∧ Below w.heap.size w w' := by
  have hz : ¬ (2147483647 : Int) < (n : Int) := by omega
  have I := is_any a n c w
  rw [show (n == 4 || n == 16) = true by rcases hl with hl | hl <;> simp [hn, hl]] at I
  have I' := Lib.hid I
  have Z := implPolicy p4 p6 a zs c hl w N h
  have S := fun W g => specPolicy a zs c hl hc W (h.gr (w' := W) g)
  have EQ := Lib.hid (fun p l hf => policy_eq (p := p) (l := l) h.1 hl hf)
  rw [← hn] at Z S
  generalize hi : hiOf zs = H at *
  generalize lo : loOf zs = L at *
  generalize (polAt (sHit (wide zs)) 9).2 = s at *
  have Z' := Lib.hid Z
  have S' := Lib.hid S
  clear I Z S hl hc N h hn hi lo
  go_enter Tryd.func5, Tryd.ntmps5
  go_wp2_with (go_at_call 15; refine I'.out.mono ?_; rintro e w1 ⟨rfl, rfl⟩)
  refine Z'.out.mono ?_
  rintro e w1 ⟨p, l, HF, rfl, hg⟩
  have HG := Lib.hid hg
  have hs := EQ.out _ _ HF.out
  subst hs
  clear hg
  go_wp2_with fail
  refine (S'.out _ HG.out).mono ?_
  rintro e w2 ⟨rfl, hg⟩
  have HG2 := Lib.hid hg
  clear hg
  go_wp2_with fail
  go_ret
  exact ⟨by simp, HG.out.below.trans (HG2.out.mono HG.out.size)⟩

/-- laws.FnPolicy, whatever the slice of bytes. -/
theorem fnPolicy_walk (p4 p6 : Addr) (a : Option Addr) (zs : List Int) (c : Nat) (w : World) (N : Net p4 p6 w) (hc : zs.length ≤ c) (_ : c ≤ maxLen) (h : HoldsB w a zs) :
    Calls Tryd.prog 5 #[.slice a zs.length c] w fun e w' => e = .returned (.bool true) ∧ Below w.heap.size w w' := by
  by_cases b1 : 2147483647 < zs.length
  · exact fnPolicy_big a _ c b1 w
  by_cases h4 : zs.length = 4
  · exact fnPolicy_yes p4 p6 a zs _ c rfl (Or.inl h4) hc w N h
  by_cases h16 : zs.length = 16
  · exact fnPolicy_yes p4 p6 a zs _ c rfl (Or.inr h16) hc w N h
  · exact fnPolicy_no a _ c b1 h4 h16 w
end Go.Proofs.YtbejikpopealdaaDoor
