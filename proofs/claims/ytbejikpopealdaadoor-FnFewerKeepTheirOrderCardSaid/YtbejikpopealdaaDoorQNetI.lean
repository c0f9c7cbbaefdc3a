/-
  classifyScope of the package, walked: the scope of an address by its two halves.
-/
import Derived.Test.YtbejikpopealdaaDoorQNetH
namespace Go.Proofs.YtbejikpopealdaaDoor
open Go.RowKit

def loop4 (lo : Int) : Bool := lo / 16777216 % 256 == 127
def link4 (lo : Int) : Bool := lo / 16777216 % 256 == 169 && lo / 65536 % 256 == 254
def loop6 (hi lo : Int) : Bool := hi == 0 && lo == 1
def link6 (hi : Int) : Bool := bits .and .u16 (hi / 281474976710656) 65472 == 65152
def mult6 (hi : Int) : Bool := hi / 72057594037927936 == 255
/-- The scope of an address of IPv4. -/
def scope4 (lo : Int) : Int := if loop4 lo = true then 2 else if link4 lo = true then 2 else 14
/-- The scope of an address of IPv6. -/
def scope6 (hi lo : Int) : Int :=
  if loop6 hi lo = true then 2 else if link6 hi = true then 2 else if mult6 hi = true then hi / 281474976710656 % 16
  else if (hi / 72057594037927936 == 254) = true then (if (bits .and .u8 (hi / 281474976710656 % 256) 192 == 192) = true then 5 else 14) else 14
/-- The scope of an address. -/
def scopeV (k : Option Bool) (hi lo : Int) : Int := if (k == some false || in6B k hi lo) = true then scope4 lo else scope6 hi lo

set_option maxHeartbeats 4000000 in
set_option maxRecDepth 100000 in
theorem classify_in (p4 p6 : Addr) (k : Option Bool) (hi lo : Int) (w : World) (N : Net p4 p6 w) (lo0 : 0 ≤ lo) (lo1 : lo < 18446744073709551616) (hi0 : 0 ≤ hi) (hi1 : hi < 18446744073709551616) (h : in6B k hi lo = true) :
    Calls Tryd.prog 38 #[.agg #[.int .u64 hi, .int .u64 lo, .pointer (zp p4 p6 k)]] w fun e w' => e = .returned (.int .u8 (scope4 lo)) ∧ Gr w w' := by
  have I52 := Lib.hid (fun W g => is4In6_any p4 p6 k hi lo W (N.gr (w' := W) g) lo0)
  have I51 := Lib.hid (fun W g => is6_any p4 p6 k hi lo W (N.gr (w' := W) g))
  have A53 := Lib.hid (fun W => as16_any hi lo (zp p4 p6 k) hi0 hi1 lo0 lo1 W)
  have I49 := Lib.hid (fun W g => isLoopback_in p4 p6 k hi lo W (N.gr (w' := W) g) lo0 hi0 hi1 h)
  have I50 := Lib.hid (fun W g => isLinkLocal_in p4 p6 k hi lo W (N.gr (w' := W) g) lo0 hi0 hi1 h)
  rw [h] at I52
  have h6 : (k == some true) = true := by unfold in6B at h; simp only [Bool.and_eq_true] at h; exact h.1.1
  rw [h6] at I51
  clear h6
  change Hid (∀ W, Gr w W → Calls _ _ _ W fun e w' => e = .returned (.bool (loop4 lo)) ∧ Gr W w') at I49
  change Hid (∀ W, Gr w W → Calls _ _ _ W fun e w' => e = .returned (.bool (link4 lo)) ∧ Gr W w') at I50
  clear N
  unfold scope4
  cases q1 : loop4 lo
  · rw [q1] at I49
    cases q2 : link4 lo
    · rw [q2] at I50
      go_enter Tryd.func38, Tryd.ntmps38
      go_wp2_with fail
      refine (I49.out _ ((Gr.refl w).alloc _)).mono ?_
      rintro e w1 ⟨rfl, hg⟩
      have hlt1 : w.heap.size < w1.heap.size := by have := hg.size; (try simp at this); omega
      obtain ⟨hc1, hf1⟩ := hg.cells
      have HG1 : Hid (Gr w w1) := (((Gr.refl w).alloc _)).trans hg
      clear hg
      go_wp2_with fail
      refine (I50.out _ HG1.out).mono ?_
      rintro e w2 ⟨rfl, hg⟩
      have hlt2 : w.heap.size < w2.heap.size := by have := hg.size; (try simp at this); omega
      obtain ⟨hc2, hf2⟩ := hg.cells
      have HG2 : Hid (Gr w w2) := (HG1.out).trans hg
      clear hg
      go_wp2_with fail
      refine (I51.out _ HG2.out).mono ?_
      rintro e w3 ⟨rfl, hg⟩
      have hlt3 : w.heap.size < w3.heap.size := by have := hg.size; (try simp at this); omega
      obtain ⟨hc3, hf3⟩ := hg.cells
      have HG3 : Hid (Gr w w3) := (HG2.out).trans hg
      clear hg
      go_wp2_with fail
      refine (I52.out _ HG3.out).mono ?_
      rintro e w4 ⟨rfl, hg⟩
      have hlt4 : w.heap.size < w4.heap.size := by have := hg.size; (try simp at this); omega
      obtain ⟨hc4, hf4⟩ := hg.cells
      have HG4 : Hid (Gr w w4) := (HG3.out).trans hg
      clear hg
      go_wp2_with fail
      refine (A53.out _).mono ?_
      rintro e w5 ⟨rfl, hg⟩
      have hlt5 : w.heap.size < w5.heap.size := by have := hg.size; (try simp at this); omega
      obtain ⟨hc5, hf5⟩ := hg.cells
      have HG5 : Hid (Gr w w5) := (HG4.out).trans hg
      clear hg
      unfold as16V
      go_wp2_with fail
      go_ret
      exact ⟨by first | rfl | simp, (HG5.out.alloc _)⟩
    · rw [q2] at I50
      go_enter Tryd.func38, Tryd.ntmps38
      go_wp2_with fail
      refine (I49.out _ ((Gr.refl w).alloc _)).mono ?_
      rintro e w1 ⟨rfl, hg⟩
      have hlt1 : w.heap.size < w1.heap.size := by have := hg.size; (try simp at this); omega
      obtain ⟨hc1, hf1⟩ := hg.cells
      have HG1 : Hid (Gr w w1) := (((Gr.refl w).alloc _)).trans hg
      clear hg
      go_wp2_with fail
      refine (I50.out _ HG1.out).mono ?_
      rintro e w2 ⟨rfl, hg⟩
      have hlt2 : w.heap.size < w2.heap.size := by have := hg.size; (try simp at this); omega
      obtain ⟨hc2, hf2⟩ := hg.cells
      have HG2 : Hid (Gr w w2) := (HG1.out).trans hg
      clear hg
      go_wp2_with fail
      go_ret
      exact ⟨by first | rfl | simp, HG2.out⟩
  · rw [q1] at I49
    go_enter Tryd.func38, Tryd.ntmps38
    go_wp2_with fail
    refine (I49.out _ ((Gr.refl w).alloc _)).mono ?_
    rintro e w1 ⟨rfl, hg⟩
    have hlt1 : w.heap.size < w1.heap.size := by have := hg.size; (try simp at this); omega
    obtain ⟨hc1, hf1⟩ := hg.cells
    have HG1 : Hid (Gr w w1) := (((Gr.refl w).alloc _)).trans hg
    clear hg
    go_wp2_with fail
    go_ret
    exact ⟨by first | rfl | simp, HG1.out⟩

set_option maxHeartbeats 4000000 in
set_option maxRecDepth 100000 in
theorem classify_4 (p4 p6 : Addr) (k : Option Bool) (hi lo : Int) (w : World) (N : Net p4 p6 w) (lo0 : 0 ≤ lo) (lo1 : lo < 18446744073709551616) (hi0 : 0 ≤ hi) (hi1 : hi < 18446744073709551616) (h : in6B k hi lo = false) (h4 : (k == some false) = true) :
    Calls Tryd.prog 38 #[.agg #[.int .u64 hi, .int .u64 lo, .pointer (zp p4 p6 k)]] w fun e w' => e = .returned (.int .u8 (scope4 lo)) ∧ Gr w w' := by
  have I52 := Lib.hid (fun W g => is4In6_any p4 p6 k hi lo W (N.gr (w' := W) g) lo0)
  have I51 := Lib.hid (fun W g => is6_any p4 p6 k hi lo W (N.gr (w' := W) g))
  have A53 := Lib.hid (fun W => as16_any hi lo (zp p4 p6 k) hi0 hi1 lo0 lo1 W)
  have I49 := Lib.hid (fun W g => isLoopback_4 p4 p6 k hi lo W (N.gr (w' := W) g) lo0 hi0 hi1 h h4)
  have I50 := Lib.hid (fun W g => isLinkLocal_4 p4 p6 k hi lo W (N.gr (w' := W) g) lo0 hi0 hi1 h h4)
  rw [h] at I52
  have h6 : (k == some true) = false := by rw [beq_iff_eq.1 h4]; rfl
  rw [h6] at I51
  clear h6
  change Hid (∀ W, Gr w W → Calls _ _ _ W fun e w' => e = .returned (.bool (loop4 lo)) ∧ Gr W w') at I49
  change Hid (∀ W, Gr w W → Calls _ _ _ W fun e w' => e = .returned (.bool (link4 lo)) ∧ Gr W w') at I50
  clear N
  unfold scope4
  cases q1 : loop4 lo
  · rw [q1] at I49
    cases q2 : link4 lo
    · rw [q2] at I50
      go_enter Tryd.func38, Tryd.ntmps38
      go_wp2_with fail
      refine (I49.out _ ((Gr.refl w).alloc _)).mono ?_
      rintro e w1 ⟨rfl, hg⟩
      have hlt1 : w.heap.size < w1.heap.size := by have := hg.size; (try simp at this); omega
      obtain ⟨hc1, hf1⟩ := hg.cells
      have HG1 : Hid (Gr w w1) := (((Gr.refl w).alloc _)).trans hg
      clear hg
      go_wp2_with fail
      refine (I50.out _ HG1.out).mono ?_
      rintro e w2 ⟨rfl, hg⟩
      have hlt2 : w.heap.size < w2.heap.size := by have := hg.size; (try simp at this); omega
      obtain ⟨hc2, hf2⟩ := hg.cells
      have HG2 : Hid (Gr w w2) := (HG1.out).trans hg
      clear hg
      go_wp2_with fail
      refine (I51.out _ HG2.out).mono ?_
      rintro e w3 ⟨rfl, hg⟩
      have hlt3 : w.heap.size < w3.heap.size := by have := hg.size; (try simp at this); omega
      obtain ⟨hc3, hf3⟩ := hg.cells
      have HG3 : Hid (Gr w w3) := (HG2.out).trans hg
      clear hg
      go_wp2_with fail
      refine (A53.out _).mono ?_
      rintro e w4 ⟨rfl, hg⟩
      have hlt4 : w.heap.size < w4.heap.size := by have := hg.size; (try simp at this); omega
      obtain ⟨hc4, hf4⟩ := hg.cells
      have HG4 : Hid (Gr w w4) := (HG3.out).trans hg
      clear hg
      unfold as16V
      go_wp2_with fail
      go_ret
      exact ⟨by first | rfl | simp, (HG4.out.alloc _)⟩
    · rw [q2] at I50
      go_enter Tryd.func38, Tryd.ntmps38
      go_wp2_with fail
      refine (I49.out _ ((Gr.refl w).alloc _)).mono ?_
      rintro e w1 ⟨rfl, hg⟩
      have hlt1 : w.heap.size < w1.heap.size := by have := hg.size; (try simp at this); omega
      obtain ⟨hc1, hf1⟩ := hg.cells
      have HG1 : Hid (Gr w w1) := (((Gr.refl w).alloc _)).trans hg
      clear hg
      go_wp2_with fail
      refine (I50.out _ HG1.out).mono ?_
      rintro e w2 ⟨rfl, hg⟩
      have hlt2 : w.heap.size < w2.heap.size := by have := hg.size; (try simp at this); omega
      obtain ⟨hc2, hf2⟩ := hg.cells
      have HG2 : Hid (Gr w w2) := (HG1.out).trans hg
      clear hg
      go_wp2_with fail
      go_ret
      exact ⟨by first | rfl | simp, HG2.out⟩
  · rw [q1] at I49
    go_enter Tryd.func38, Tryd.ntmps38
    go_wp2_with fail
    refine (I49.out _ ((Gr.refl w).alloc _)).mono ?_
    rintro e w1 ⟨rfl, hg⟩
    have hlt1 : w.heap.size < w1.heap.size := by have := hg.size; (try simp at this); omega
    obtain ⟨hc1, hf1⟩ := hg.cells
    have HG1 : Hid (Gr w w1) := (((Gr.refl w).alloc _)).trans hg
    clear hg
    go_wp2_with fail
    go_ret
    exact ⟨by first | rfl | simp, HG1.out⟩

set_option maxHeartbeats 4000000 in
set_option maxRecDepth 100000 in
theorem classify_6a (p4 p6 : Addr) (k : Option Bool) (hi lo : Int) (w : World) (N : Net p4 p6 w) (lo0 : 0 ≤ lo) (lo1 : lo < 18446744073709551616) (hi0 : 0 ≤ hi) (hi1 : hi < 18446744073709551616) (h : in6B k hi lo = false) (h6 : (k == some true) = true) (q1 : loop6 hi lo = false) (q2 : link6 hi = false) :
    Calls Tryd.prog 38 #[.agg #[.int .u64 hi, .int .u64 lo, .pointer (zp p4 p6 k)]] w fun e w' => e = .returned (.int .u8 (scope6 hi lo)) ∧ Gr w w' := by
  have I52 := Lib.hid (fun W g => is4In6_any p4 p6 k hi lo W (N.gr (w' := W) g) lo0)
  have I51 := Lib.hid (fun W g => is6_any p4 p6 k hi lo W (N.gr (w' := W) g))
  have A53 := Lib.hid (fun W => as16_any hi lo (zp p4 p6 k) hi0 hi1 lo0 lo1 W)
  have I49 := Lib.hid (fun W g => isLoopback_6 p4 p6 k hi lo W (N.gr (w' := W) g) lo0 hi0 hi1 h h6)
  have I50 := Lib.hid (fun W g => isLinkLocal_6 p4 p6 k hi lo W (N.gr (w' := W) g) lo0 hi0 hi1 h h6)
  have I54 := Lib.hid (fun W g => isMulticast_6 p4 p6 k hi lo W (N.gr (w' := W) g) lo0 hi0 hi1 h h6)
  rw [h] at I52
  rw [h6] at I51
  change Hid (∀ W, Gr w W → Calls _ _ _ W fun e w' => e = .returned (.bool (loop6 hi lo)) ∧ Gr W w') at I49
  change Hid (∀ W, Gr w W → Calls _ _ _ W fun e w' => e = .returned (.bool (link6 hi)) ∧ Gr W w') at I50
  change Hid (∀ W, Gr w W → Calls _ _ _ W fun e w' => e = .returned (.bool (mult6 hi)) ∧ Gr W w') at I54
  clear N
  unfold scope6
  rw [q1] at I49
  rw [q2] at I50
  rw [q1, q2]
  cases q3 : mult6 hi
  · rw [q3] at I54
    cases q4 : (hi / 72057594037927936 == 254) <;> cases q5 : (bits .and .u8 (hi / 281474976710656 % 256) 192 == 192) <;>
    · go_enter Tryd.func38, Tryd.ntmps38
      go_wp2_with fail
      refine (I49.out _ ((Gr.refl w).alloc _)).mono ?_
      rintro e w1 ⟨rfl, hg⟩
      have hlt1 : w.heap.size < w1.heap.size := by have := hg.size; (try simp at this); omega
      obtain ⟨hc1, hf1⟩ := hg.cells
      have HG1 : Hid (Gr w w1) := (((Gr.refl w).alloc _)).trans hg
      clear hg
      go_wp2_with fail
      refine (I50.out _ HG1.out).mono ?_
      rintro e w2 ⟨rfl, hg⟩
      have hlt2 : w.heap.size < w2.heap.size := by have := hg.size; (try simp at this); omega
      obtain ⟨hc2, hf2⟩ := hg.cells
      have HG2 : Hid (Gr w w2) := (HG1.out).trans hg
      clear hg
      go_wp2_with fail
      refine (I51.out _ HG2.out).mono ?_
      rintro e w3 ⟨rfl, hg⟩
      have hlt3 : w.heap.size < w3.heap.size := by have := hg.size; (try simp at this); omega
      obtain ⟨hc3, hf3⟩ := hg.cells
      have HG3 : Hid (Gr w w3) := (HG2.out).trans hg
      clear hg
      go_wp2_with fail
      refine (I52.out _ HG3.out).mono ?_
      rintro e w4 ⟨rfl, hg⟩
      have hlt4 : w.heap.size < w4.heap.size := by have := hg.size; (try simp at this); omega
      obtain ⟨hc4, hf4⟩ := hg.cells
      have HG4 : Hid (Gr w w4) := (HG3.out).trans hg
      clear hg
      go_wp2_with fail
      refine (A53.out _).mono ?_
      rintro e w5 ⟨rfl, hg⟩
      have hlt5 : w.heap.size < w5.heap.size := by have := hg.size; (try simp at this); omega
      obtain ⟨hc5, hf5⟩ := hg.cells
      have HG5 : Hid (Gr w w5) := (HG4.out).trans hg
      clear hg
      unfold as16V
      go_wp2_with fail
      refine (I54.out _ (HG5.out.alloc _)).mono ?_
      rintro e w6 ⟨rfl, hg⟩
      have hlt6 : w.heap.size < w6.heap.size := by have := hg.size; (try simp at this); omega
      obtain ⟨hc6, hf6⟩ := hg.cells
      have HG6 : Hid (Gr w w6) := ((HG5.out.alloc _)).trans hg
      clear hg
      go_wp2_with fail
      go_ret
      exact ⟨by first | rfl | simp, HG6.out⟩
  · rw [q3] at I54
    · go_enter Tryd.func38, Tryd.ntmps38
      go_wp2_with fail
      refine (I49.out _ ((Gr.refl w).alloc _)).mono ?_
      rintro e w1 ⟨rfl, hg⟩
      have hlt1 : w.heap.size < w1.heap.size := by have := hg.size; (try simp at this); omega
      obtain ⟨hc1, hf1⟩ := hg.cells
      have HG1 : Hid (Gr w w1) := (((Gr.refl w).alloc _)).trans hg
      clear hg
      go_wp2_with fail
      refine (I50.out _ HG1.out).mono ?_
      rintro e w2 ⟨rfl, hg⟩
      have hlt2 : w.heap.size < w2.heap.size := by have := hg.size; (try simp at this); omega
      obtain ⟨hc2, hf2⟩ := hg.cells
      have HG2 : Hid (Gr w w2) := (HG1.out).trans hg
      clear hg
      go_wp2_with fail
      refine (I51.out _ HG2.out).mono ?_
      rintro e w3 ⟨rfl, hg⟩
      have hlt3 : w.heap.size < w3.heap.size := by have := hg.size; (try simp at this); omega
      obtain ⟨hc3, hf3⟩ := hg.cells
      have HG3 : Hid (Gr w w3) := (HG2.out).trans hg
      clear hg
      go_wp2_with fail
      refine (I52.out _ HG3.out).mono ?_
      rintro e w4 ⟨rfl, hg⟩
      have hlt4 : w.heap.size < w4.heap.size := by have := hg.size; (try simp at this); omega
      obtain ⟨hc4, hf4⟩ := hg.cells
      have HG4 : Hid (Gr w w4) := (HG3.out).trans hg
      clear hg
      go_wp2_with fail
      refine (A53.out _).mono ?_
      rintro e w5 ⟨rfl, hg⟩
      have hlt5 : w.heap.size < w5.heap.size := by have := hg.size; (try simp at this); omega
      obtain ⟨hc5, hf5⟩ := hg.cells
      have HG5 : Hid (Gr w w5) := (HG4.out).trans hg
      clear hg
      unfold as16V
      go_wp2_with fail
      refine (I54.out _ (HG5.out.alloc _)).mono ?_
      rintro e w6 ⟨rfl, hg⟩
      have hlt6 : w.heap.size < w6.heap.size := by have := hg.size; (try simp at this); omega
      obtain ⟨hc6, hf6⟩ := hg.cells
      have HG6 : Hid (Gr w w6) := ((HG5.out.alloc _)).trans hg
      clear hg
      go_wp2_with fail
      go_ret
      exact ⟨by first | rfl | simp, HG6.out⟩

set_option maxHeartbeats 4000000 in
set_option maxRecDepth 100000 in
theorem classify_6 (p4 p6 : Addr) (k : Option Bool) (hi lo : Int) (w : World) (N : Net p4 p6 w) (lo0 : 0 ≤ lo) (lo1 : lo < 18446744073709551616) (hi0 : 0 ≤ hi) (hi1 : hi < 18446744073709551616) (h : in6B k hi lo = false) (h6 : (k == some true) = true) :
    Calls Tryd.prog 38 #[.agg #[.int .u64 hi, .int .u64 lo, .pointer (zp p4 p6 k)]] w fun e w' => e = .returned (.int .u8 (scope6 hi lo)) ∧ Gr w w' := by
  cases q1 : loop6 hi lo
  · cases q2 : link6 hi
    · exact classify_6a p4 p6 k hi lo w N lo0 lo1 hi0 hi1 h h6 q1 q2
    · unfold scope6
      rw [q1, q2]
      have I52 := Lib.hid (fun W g => is4In6_any p4 p6 k hi lo W (N.gr (w' := W) g) lo0)
      have I51 := Lib.hid (fun W g => is6_any p4 p6 k hi lo W (N.gr (w' := W) g))
      have A53 := Lib.hid (fun W => as16_any hi lo (zp p4 p6 k) hi0 hi1 lo0 lo1 W)
      have I49 := Lib.hid (fun W g => isLoopback_6 p4 p6 k hi lo W (N.gr (w' := W) g) lo0 hi0 hi1 h h6)
      have I50 := Lib.hid (fun W g => isLinkLocal_6 p4 p6 k hi lo W (N.gr (w' := W) g) lo0 hi0 hi1 h h6)
      have I54 := Lib.hid (fun W g => isMulticast_6 p4 p6 k hi lo W (N.gr (w' := W) g) lo0 hi0 hi1 h h6)
      rw [h] at I52
      rw [h6] at I51
      change Hid (∀ W, Gr w W → Calls _ _ _ W fun e w' => e = .returned (.bool (loop6 hi lo)) ∧ Gr W w') at I49
      change Hid (∀ W, Gr w W → Calls _ _ _ W fun e w' => e = .returned (.bool (link6 hi)) ∧ Gr W w') at I50
      change Hid (∀ W, Gr w W → Calls _ _ _ W fun e w' => e = .returned (.bool (mult6 hi)) ∧ Gr W w') at I54
      clear N
      rw [q1] at I49
      rw [q2] at I50
      go_enter Tryd.func38, Tryd.ntmps38
      go_wp2_with fail
      refine (I49.out _ ((Gr.refl w).alloc _)).mono ?_
      rintro e w1 ⟨rfl, hg⟩
      have hlt1 : w.heap.size < w1.heap.size := by have := hg.size; (try simp at this); omega
      obtain ⟨hc1, hf1⟩ := hg.cells
      have HG1 : Hid (Gr w w1) := (((Gr.refl w).alloc _)).trans hg
      clear hg
      go_wp2_with fail
      refine (I50.out _ HG1.out).mono ?_
      rintro e w2 ⟨rfl, hg⟩
      have hlt2 : w.heap.size < w2.heap.size := by have := hg.size; (try simp at this); omega
      obtain ⟨hc2, hf2⟩ := hg.cells
      have HG2 : Hid (Gr w w2) := (HG1.out).trans hg
      clear hg
      go_wp2_with fail
      go_ret
      exact ⟨by first | rfl | simp, HG2.out⟩
  · unfold scope6
    rw [q1]
    have I52 := Lib.hid (fun W g => is4In6_any p4 p6 k hi lo W (N.gr (w' := W) g) lo0)
    have I51 := Lib.hid (fun W g => is6_any p4 p6 k hi lo W (N.gr (w' := W) g))
    have A53 := Lib.hid (fun W => as16_any hi lo (zp p4 p6 k) hi0 hi1 lo0 lo1 W)
    have I49 := Lib.hid (fun W g => isLoopback_6 p4 p6 k hi lo W (N.gr (w' := W) g) lo0 hi0 hi1 h h6)
    have I50 := Lib.hid (fun W g => isLinkLocal_6 p4 p6 k hi lo W (N.gr (w' := W) g) lo0 hi0 hi1 h h6)
    have I54 := Lib.hid (fun W g => isMulticast_6 p4 p6 k hi lo W (N.gr (w' := W) g) lo0 hi0 hi1 h h6)
    rw [h] at I52
    rw [h6] at I51
    change Hid (∀ W, Gr w W → Calls _ _ _ W fun e w' => e = .returned (.bool (loop6 hi lo)) ∧ Gr W w') at I49
    change Hid (∀ W, Gr w W → Calls _ _ _ W fun e w' => e = .returned (.bool (link6 hi)) ∧ Gr W w') at I50
    change Hid (∀ W, Gr w W → Calls _ _ _ W fun e w' => e = .returned (.bool (mult6 hi)) ∧ Gr W w') at I54
    clear N
    rw [q1] at I49
    go_enter Tryd.func38, Tryd.ntmps38
    go_wp2_with fail
    refine (I49.out _ ((Gr.refl w).alloc _)).mono ?_
    rintro e w1 ⟨rfl, hg⟩
    have hlt1 : w.heap.size < w1.heap.size := by have := hg.size; (try simp at this); omega
    obtain ⟨hc1, hf1⟩ := hg.cells
    have HG1 : Hid (Gr w w1) := (((Gr.refl w).alloc _)).trans hg
    clear hg
    go_wp2_with fail
    go_ret
    exact ⟨by first | rfl | simp, HG1.out⟩

theorem classify_any (p4 p6 : Addr) (k : Option Bool) (hi lo : Int) (w : World) (N : Net p4 p6 w) (lo0 : 0 ≤ lo) (lo1 : lo < 18446744073709551616) (hi0 : 0 ≤ hi) (hi1 : hi < 18446744073709551616) (hk : k.isSome = true) :
    Calls Tryd.prog 38 #[.agg #[.int .u64 hi, .int .u64 lo, .pointer (zp p4 p6 k)]] w fun e w' => e = .returned (.int .u8 (scopeV k hi lo)) ∧ Gr w w' := by
  unfold scopeV
  cases h : in6B k hi lo with
  | true => rw [Bool.or_true, if_pos rfl]; exact classify_in p4 p6 k hi lo w N lo0 lo1 hi0 hi1 h
  | false =>
    rw [Bool.or_false]
    cases h4 : (k == some false) with
    | true => rw [if_pos rfl]; exact classify_4 p4 p6 k hi lo w N lo0 lo1 hi0 hi1 h h4
    | false =>
      rw [if_neg (by decide)]
      have h6 : (k == some true) = true := by
        rcases k with _ | (_ | _)
        · cases hk
        · cases h4
        · rfl
      exact classify_6 p4 p6 k hi lo w N lo0 lo1 hi0 hi1 h h6
end Go.Proofs.YtbejikpopealdaaDoor
