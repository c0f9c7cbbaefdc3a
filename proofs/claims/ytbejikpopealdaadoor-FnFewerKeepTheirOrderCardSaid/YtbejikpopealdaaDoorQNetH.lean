/-
  netip.Addr's IsLoopback, IsLinkLocalUnicast and IsMulticast, walked at addresses of IPv4, mapped ones and ones of IPv6.
-/
import Derived.Test.YtbejikpopealdaaDoorQNetG
namespace Go.Proofs.YtbejikpopealdaaDoor
open Go.RowKit

theorem unmK_in {k : Option Bool} {hi lo : Int} (h : in6B k hi lo = true) : unmK k hi lo = some false := by unfold unmK; rw [if_pos h]
theorem unmK_no {k : Option Bool} {hi lo : Int} (h : in6B k hi lo = false) : unmK k hi lo = k := by unfold unmK; rw [h]; rfl
theorem in6B_four {k : Option Bool} {hi lo : Int} (h : (k == some true) = false) : in6B k hi lo = false := by unfold in6B; rw [h]; rfl

set_option maxHeartbeats 2000000 in
set_option maxRecDepth 100000 in
theorem isLoopback_in (p4 p6 : Addr) (k : Option Bool) (hi lo : Int) (w : World) (N : Net p4 p6 w) (lo0 : 0 ≤ lo) (hi0 : 0 ≤ hi) (hi1 : hi < 18446744073709551616) (h : in6B k hi lo = true) :
    Calls Tryd.prog 49 #[.agg #[.int .u64 hi, .int .u64 lo, .pointer (zp p4 p6 k)]] w fun e w' => e = .returned (.bool (lo / 16777216 % 256 == 127)) ∧ Gr w w' := by
  have I52 := Lib.hid (fun W g => is4In6_any p4 p6 k hi lo W (N.gr (w' := W) g) lo0)
  have I68 := Lib.hid (fun W g => unmap_any p4 p6 k hi lo W (N.gr (w' := W) g) lo0)
  rw [h] at I52
  rw [unmK_in h] at I68
  have I56 := Lib.hid (fun W g => is4_any p4 p6 (some false) hi lo W (N.gr (w' := W) g))
  have I51 := Lib.hid (fun W g => is6_any p4 p6 (some false) hi lo W (N.gr (w' := W) g))
  have A0 := Lib.hid (fun W => v4_0 hi lo (zp p4 p6 (some false)) W lo0)
  have A1 := Lib.hid (fun W => v4_1 hi lo (zp p4 p6 (some false)) W lo0)
  have A6 := Lib.hid (fun W => v6u16_0 hi lo (zp p4 p6 (some false)) W hi0 hi1)
  clear N h lo0
  go_enter Tryd.func49, Tryd.ntmps49
  go_wp2_with fail
  refine (I52.out _ ((Gr.refl w).alloc _)).mono ?_
  rintro e w1 ⟨rfl, hg⟩
  have hlt1 : w.heap.size < w1.heap.size := by have := hg.size; (try simp at this); omega
  obtain ⟨hc1, hf1⟩ := hg.cells
  have HG1 : Hid (Gr w w1) := (((Gr.refl w).alloc _)).trans hg
  clear hg
  go_wp2_with fail
  refine (I68.out _ HG1.out).mono ?_
  rintro e w2 ⟨rfl, hg⟩
  have hlt2 : w.heap.size < w2.heap.size := by have := hg.size; (try simp at this); omega
  obtain ⟨hc2, hf2⟩ := hg.cells
  have HG2 : Hid (Gr w w2) := (HG1.out).trans hg
  clear hg
  go_wp2_with fail
  refine (I56.out _ (((HG2.out.setCell (p := ⟨w.heap.size, 0, none⟩) (Nat.le_refl _) _).setCell (p := ⟨w.heap.size, 1, none⟩) (Nat.le_refl _) _).setCell (p := ⟨w.heap.size, 2, none⟩) (Nat.le_refl _) _)).mono ?_
  rintro e w3 ⟨rfl, hg⟩
  have hlt3 : w.heap.size < w3.heap.size := by have := hg.size; (try simp at this); omega
  obtain ⟨hc3, hf3⟩ := hg.cells
  have HG3 : Hid (Gr w w3) := ((((HG2.out.setCell (p := ⟨w.heap.size, 0, none⟩) (Nat.le_refl _) _).setCell (p := ⟨w.heap.size, 1, none⟩) (Nat.le_refl _) _).setCell (p := ⟨w.heap.size, 2, none⟩) (Nat.le_refl _) _)).trans hg
  clear hg
  go_wp2_with fail
  refine (A0.out _).mono ?_
  rintro e w4 ⟨rfl, hg⟩
  have hlt4 : w.heap.size < w4.heap.size := by have := hg.size; (try simp at this); omega
  obtain ⟨hc4, hf4⟩ := hg.cells
  have HG4 : Hid (Gr w w4) := (HG3.out).trans hg
  clear hg
  go_wp2_with fail
  go_ret
  exact ⟨by first | rfl | simp, HG4.out⟩

set_option maxHeartbeats 2000000 in
set_option maxRecDepth 100000 in
theorem isLoopback_4 (p4 p6 : Addr) (k : Option Bool) (hi lo : Int) (w : World) (N : Net p4 p6 w) (lo0 : 0 ≤ lo) (hi0 : 0 ≤ hi) (hi1 : hi < 18446744073709551616) (h : in6B k hi lo = false) (h4 : (k == some false) = true) :
    Calls Tryd.prog 49 #[.agg #[.int .u64 hi, .int .u64 lo, .pointer (zp p4 p6 k)]] w fun e w' => e = .returned (.bool (lo / 16777216 % 256 == 127)) ∧ Gr w w' := by
  have I52 := Lib.hid (fun W g => is4In6_any p4 p6 k hi lo W (N.gr (w' := W) g) lo0)
  rw [h] at I52
  have I56 := Lib.hid (fun W g => is4_any p4 p6 k hi lo W (N.gr (w' := W) g))
  have I51 := Lib.hid (fun W g => is6_any p4 p6 k hi lo W (N.gr (w' := W) g))
  have A0 := Lib.hid (fun W => v4_0 hi lo (zp p4 p6 k) W lo0)
  have A1 := Lib.hid (fun W => v4_1 hi lo (zp p4 p6 k) W lo0)
  have A6 := Lib.hid (fun W => v6u16_0 hi lo (zp p4 p6 k) W hi0 hi1)
  rw [h4] at I56
  clear N h lo0
  go_enter Tryd.func49, Tryd.ntmps49
  go_wp2_with fail
  refine (I52.out _ ((Gr.refl w).alloc _)).mono ?_
  rintro e w1 ⟨rfl, hg⟩
  have hlt1 : w.heap.size < w1.heap.size := by have := hg.size; (try simp at this); omega
  obtain ⟨hc1, hf1⟩ := hg.cells
  have HG1 : Hid (Gr w w1) := (((Gr.refl w).alloc _)).trans hg
  clear hg
  go_wp2_with fail
  refine (I56.out _ HG1.out).mono ?_
  rintro e w2 ⟨rfl, hg⟩
  have hlt2 : w.heap.size < w2.heap.size := by have := hg.size; (try simp at this); omega
  obtain ⟨hc2, hf2⟩ := hg.cells
  have HG2 : Hid (Gr w w2) := (HG1.out).trans hg
  clear hg
  go_wp2_with fail
  refine (A0.out _).mono ?_
  rintro e w3 ⟨rfl, hg⟩
  have hlt3 : w.heap.size < w3.heap.size := by have := hg.size; (try simp at this); omega
  obtain ⟨hc3, hf3⟩ := hg.cells
  have HG3 : Hid (Gr w w3) := (HG2.out).trans hg
  clear hg
  go_wp2_with fail
  go_ret
  exact ⟨by first | rfl | simp, HG3.out⟩

set_option maxHeartbeats 2000000 in
set_option maxRecDepth 100000 in
theorem isLoopback_6 (p4 p6 : Addr) (k : Option Bool) (hi lo : Int) (w : World) (N : Net p4 p6 w) (lo0 : 0 ≤ lo) (hi0 : 0 ≤ hi) (hi1 : hi < 18446744073709551616) (h : in6B k hi lo = false) (h6 : (k == some true) = true) :
    Calls Tryd.prog 49 #[.agg #[.int .u64 hi, .int .u64 lo, .pointer (zp p4 p6 k)]] w fun e w' => e = .returned (.bool (hi == 0 && lo == 1)) ∧ Gr w w' := by
  have I52 := Lib.hid (fun W g => is4In6_any p4 p6 k hi lo W (N.gr (w' := W) g) lo0)
  rw [h] at I52
  have I56 := Lib.hid (fun W g => is4_any p4 p6 k hi lo W (N.gr (w' := W) g))
  have I51 := Lib.hid (fun W g => is6_any p4 p6 k hi lo W (N.gr (w' := W) g))
  have A0 := Lib.hid (fun W => v4_0 hi lo (zp p4 p6 k) W lo0)
  have A1 := Lib.hid (fun W => v4_1 hi lo (zp p4 p6 k) W lo0)
  have A6 := Lib.hid (fun W => v6u16_0 hi lo (zp p4 p6 k) W hi0 hi1)
  have h4 : (k == some false) = false := by rw [beq_iff_eq.1 h6]; rfl
  rw [h4] at I56
  rw [h6] at I51
  clear h4
  clear A0 A1 A6
  clear N h lo0
  cases q1 : (hi == 0) <;>
  · go_enter Tryd.func49, Tryd.ntmps49
    go_wp2_with fail
    refine (I52.out _ ((Gr.refl w).alloc _)).mono ?_
    rintro e w1 ⟨rfl, hg⟩
    have hlt1 : w.heap.size < w1.heap.size := by have := hg.size; (try simp at this); omega
    obtain ⟨hc1, hf1⟩ := hg.cells
    have HG1 : Hid (Gr w w1) := (((Gr.refl w).alloc _)).trans hg
    clear hg
    go_wp2_with fail
    refine (I56.out _ HG1.out).mono ?_
    rintro e w2 ⟨rfl, hg⟩
    have hlt2 : w.heap.size < w2.heap.size := by have := hg.size; (try simp at this); omega
    obtain ⟨hc2, hf2⟩ := hg.cells
    have HG2 : Hid (Gr w w2) := (HG1.out).trans hg
    clear hg
    go_wp2_with fail
    refine (I51.out _ HG2.out).mono ?_
    rintro e w3 ⟨rfl, hg⟩
    have hlt3 : w.heap.size < w3.heap.size := by have := hg.size; (try simp at this); omega
    obtain ⟨hc3, hf3⟩ := hg.cells
    have HG3 : Hid (Gr w w3) := (HG2.out).trans hg
    clear hg
    go_wp2_with fail
    go_ret
    exact ⟨by first | rfl | simp, HG3.out⟩

set_option maxHeartbeats 2000000 in
set_option maxRecDepth 100000 in
theorem isLinkLocal_in (p4 p6 : Addr) (k : Option Bool) (hi lo : Int) (w : World) (N : Net p4 p6 w) (lo0 : 0 ≤ lo) (hi0 : 0 ≤ hi) (hi1 : hi < 18446744073709551616) (h : in6B k hi lo = true) :
    Calls Tryd.prog 50 #[.agg #[.int .u64 hi, .int .u64 lo, .pointer (zp p4 p6 k)]] w fun e w' => e = .returned (.bool (lo / 16777216 % 256 == 169 && lo / 65536 % 256 == 254)) ∧ Gr w w' := by
  have I52 := Lib.hid (fun W g => is4In6_any p4 p6 k hi lo W (N.gr (w' := W) g) lo0)
  have I68 := Lib.hid (fun W g => unmap_any p4 p6 k hi lo W (N.gr (w' := W) g) lo0)
  rw [h] at I52
  rw [unmK_in h] at I68
  have I56 := Lib.hid (fun W g => is4_any p4 p6 (some false) hi lo W (N.gr (w' := W) g))
  have I51 := Lib.hid (fun W g => is6_any p4 p6 (some false) hi lo W (N.gr (w' := W) g))
  have A0 := Lib.hid (fun W => v4_0 hi lo (zp p4 p6 (some false)) W lo0)
  have A1 := Lib.hid (fun W => v4_1 hi lo (zp p4 p6 (some false)) W lo0)
  have A6 := Lib.hid (fun W => v6u16_0 hi lo (zp p4 p6 (some false)) W hi0 hi1)
  clear A6
  clear N h lo0
  cases q1 : (lo / 16777216 % 256 == 169)
  · go_enter Tryd.func50, Tryd.ntmps50
    go_wp2_with fail
    refine (I52.out _ ((Gr.refl w).alloc _)).mono ?_
    rintro e w1 ⟨rfl, hg⟩
    have hlt1 : w.heap.size < w1.heap.size := by have := hg.size; (try simp at this); omega
    obtain ⟨hc1, hf1⟩ := hg.cells
    have HG1 : Hid (Gr w w1) := (((Gr.refl w).alloc _)).trans hg
    clear hg
    go_wp2_with fail
    refine (I68.out _ HG1.out).mono ?_
    rintro e w2 ⟨rfl, hg⟩
    have hlt2 : w.heap.size < w2.heap.size := by have := hg.size; (try simp at this); omega
    obtain ⟨hc2, hf2⟩ := hg.cells
    have HG2 : Hid (Gr w w2) := (HG1.out).trans hg
    clear hg
    go_wp2_with fail
    refine (I56.out _ (((HG2.out.setCell (p := ⟨w.heap.size, 0, none⟩) (Nat.le_refl _) _).setCell (p := ⟨w.heap.size, 1, none⟩) (Nat.le_refl _) _).setCell (p := ⟨w.heap.size, 2, none⟩) (Nat.le_refl _) _)).mono ?_
    rintro e w3 ⟨rfl, hg⟩
    have hlt3 : w.heap.size < w3.heap.size := by have := hg.size; (try simp at this); omega
    obtain ⟨hc3, hf3⟩ := hg.cells
    have HG3 : Hid (Gr w w3) := ((((HG2.out.setCell (p := ⟨w.heap.size, 0, none⟩) (Nat.le_refl _) _).setCell (p := ⟨w.heap.size, 1, none⟩) (Nat.le_refl _) _).setCell (p := ⟨w.heap.size, 2, none⟩) (Nat.le_refl _) _)).trans hg
    clear hg
    go_wp2_with fail
    refine (A0.out _).mono ?_
    rintro e w4 ⟨rfl, hg⟩
    have hlt4 : w.heap.size < w4.heap.size := by have := hg.size; (try simp at this); omega
    obtain ⟨hc4, hf4⟩ := hg.cells
    have HG4 : Hid (Gr w w4) := (HG3.out).trans hg
    clear hg
    go_wp2_with fail
    go_ret
    exact ⟨by first | rfl | simp, HG4.out⟩
  · go_enter Tryd.func50, Tryd.ntmps50
    go_wp2_with fail
    refine (I52.out _ ((Gr.refl w).alloc _)).mono ?_
    rintro e w1 ⟨rfl, hg⟩
    have hlt1 : w.heap.size < w1.heap.size := by have := hg.size; (try simp at this); omega
    obtain ⟨hc1, hf1⟩ := hg.cells
    have HG1 : Hid (Gr w w1) := (((Gr.refl w).alloc _)).trans hg
    clear hg
    go_wp2_with fail
    refine (I68.out _ HG1.out).mono ?_
    rintro e w2 ⟨rfl, hg⟩
    have hlt2 : w.heap.size < w2.heap.size := by have := hg.size; (try simp at this); omega
    obtain ⟨hc2, hf2⟩ := hg.cells
    have HG2 : Hid (Gr w w2) := (HG1.out).trans hg
    clear hg
    go_wp2_with fail
    refine (I56.out _ (((HG2.out.setCell (p := ⟨w.heap.size, 0, none⟩) (Nat.le_refl _) _).setCell (p := ⟨w.heap.size, 1, none⟩) (Nat.le_refl _) _).setCell (p := ⟨w.heap.size, 2, none⟩) (Nat.le_refl _) _)).mono ?_
    rintro e w3 ⟨rfl, hg⟩
    have hlt3 : w.heap.size < w3.heap.size := by have := hg.size; (try simp at this); omega
    obtain ⟨hc3, hf3⟩ := hg.cells
    have HG3 : Hid (Gr w w3) := ((((HG2.out.setCell (p := ⟨w.heap.size, 0, none⟩) (Nat.le_refl _) _).setCell (p := ⟨w.heap.size, 1, none⟩) (Nat.le_refl _) _).setCell (p := ⟨w.heap.size, 2, none⟩) (Nat.le_refl _) _)).trans hg
    clear hg
    go_wp2_with fail
    refine (A0.out _).mono ?_
    rintro e w4 ⟨rfl, hg⟩
    have hlt4 : w.heap.size < w4.heap.size := by have := hg.size; (try simp at this); omega
    obtain ⟨hc4, hf4⟩ := hg.cells
    have HG4 : Hid (Gr w w4) := (HG3.out).trans hg
    clear hg
    go_wp2_with fail
    refine (A1.out _).mono ?_
    rintro e w5 ⟨rfl, hg⟩
    have hlt5 : w.heap.size < w5.heap.size := by have := hg.size; (try simp at this); omega
    obtain ⟨hc5, hf5⟩ := hg.cells
    have HG5 : Hid (Gr w w5) := (HG4.out).trans hg
    clear hg
    go_wp2_with fail
    go_ret
    exact ⟨by first | rfl | simp, HG5.out⟩

set_option maxHeartbeats 2000000 in
set_option maxRecDepth 100000 in
theorem isLinkLocal_4 (p4 p6 : Addr) (k : Option Bool) (hi lo : Int) (w : World) (N : Net p4 p6 w) (lo0 : 0 ≤ lo) (hi0 : 0 ≤ hi) (hi1 : hi < 18446744073709551616) (h : in6B k hi lo = false) (h4 : (k == some false) = true) :
    Calls Tryd.prog 50 #[.agg #[.int .u64 hi, .int .u64 lo, .pointer (zp p4 p6 k)]] w fun e w' => e = .returned (.bool (lo / 16777216 % 256 == 169 && lo / 65536 % 256 == 254)) ∧ Gr w w' := by
  have I52 := Lib.hid (fun W g => is4In6_any p4 p6 k hi lo W (N.gr (w' := W) g) lo0)
  rw [h] at I52
  have I56 := Lib.hid (fun W g => is4_any p4 p6 k hi lo W (N.gr (w' := W) g))
  have I51 := Lib.hid (fun W g => is6_any p4 p6 k hi lo W (N.gr (w' := W) g))
  have A0 := Lib.hid (fun W => v4_0 hi lo (zp p4 p6 k) W lo0)
  have A1 := Lib.hid (fun W => v4_1 hi lo (zp p4 p6 k) W lo0)
  have A6 := Lib.hid (fun W => v6u16_0 hi lo (zp p4 p6 k) W hi0 hi1)
  rw [h4] at I56
  clear A6
  clear N h lo0
  cases q1 : (lo / 16777216 % 256 == 169)
  · go_enter Tryd.func50, Tryd.ntmps50
    go_wp2_with fail
    refine (I52.out _ ((Gr.refl w).alloc _)).mono ?_
    rintro e w1 ⟨rfl, hg⟩
    have hlt1 : w.heap.size < w1.heap.size := by have := hg.size; (try simp at this); omega
    obtain ⟨hc1, hf1⟩ := hg.cells
    have HG1 : Hid (Gr w w1) := (((Gr.refl w).alloc _)).trans hg
    clear hg
    go_wp2_with fail
    refine (I56.out _ HG1.out).mono ?_
    rintro e w2 ⟨rfl, hg⟩
    have hlt2 : w.heap.size < w2.heap.size := by have := hg.size; (try simp at this); omega
    obtain ⟨hc2, hf2⟩ := hg.cells
    have HG2 : Hid (Gr w w2) := (HG1.out).trans hg
    clear hg
    go_wp2_with fail
    refine (A0.out _).mono ?_
    rintro e w3 ⟨rfl, hg⟩
    have hlt3 : w.heap.size < w3.heap.size := by have := hg.size; (try simp at this); omega
    obtain ⟨hc3, hf3⟩ := hg.cells
    have HG3 : Hid (Gr w w3) := (HG2.out).trans hg
    clear hg
    go_wp2_with fail
    go_ret
    exact ⟨by first | rfl | simp, HG3.out⟩
  · go_enter Tryd.func50, Tryd.ntmps50
    go_wp2_with fail
    refine (I52.out _ ((Gr.refl w).alloc _)).mono ?_
    rintro e w1 ⟨rfl, hg⟩
    have hlt1 : w.heap.size < w1.heap.size := by have := hg.size; (try simp at this); omega
    obtain ⟨hc1, hf1⟩ := hg.cells
    have HG1 : Hid (Gr w w1) := (((Gr.refl w).alloc _)).trans hg
    clear hg
    go_wp2_with fail
    refine (I56.out _ HG1.out).mono ?_
    rintro e w2 ⟨rfl, hg⟩
    have hlt2 : w.heap.size < w2.heap.size := by have := hg.size; (try simp at this); omega
    obtain ⟨hc2, hf2⟩ := hg.cells
    have HG2 : Hid (Gr w w2) := (HG1.out).trans hg
    clear hg
    go_wp2_with fail
    refine (A0.out _).mono ?_
    rintro e w3 ⟨rfl, hg⟩
    have hlt3 : w.heap.size < w3.heap.size := by have := hg.size; (try simp at this); omega
    obtain ⟨hc3, hf3⟩ := hg.cells
    have HG3 : Hid (Gr w w3) := (HG2.out).trans hg
    clear hg
    go_wp2_with fail
    refine (A1.out _).mono ?_
    rintro e w4 ⟨rfl, hg⟩
    have hlt4 : w.heap.size < w4.heap.size := by have := hg.size; (try simp at this); omega
    obtain ⟨hc4, hf4⟩ := hg.cells
    have HG4 : Hid (Gr w w4) := (HG3.out).trans hg
    clear hg
    go_wp2_with fail
    go_ret
    exact ⟨by first | rfl | simp, HG4.out⟩

set_option maxHeartbeats 2000000 in
set_option maxRecDepth 100000 in
theorem isLinkLocal_6 (p4 p6 : Addr) (k : Option Bool) (hi lo : Int) (w : World) (N : Net p4 p6 w) (lo0 : 0 ≤ lo) (hi0 : 0 ≤ hi) (hi1 : hi < 18446744073709551616) (h : in6B k hi lo = false) (h6 : (k == some true) = true) :
    Calls Tryd.prog 50 #[.agg #[.int .u64 hi, .int .u64 lo, .pointer (zp p4 p6 k)]] w fun e w' => e = .returned (.bool (bits .and .u16 (hi / 281474976710656) 65472 == 65152)) ∧ Gr w w' := by
  have I52 := Lib.hid (fun W g => is4In6_any p4 p6 k hi lo W (N.gr (w' := W) g) lo0)
  rw [h] at I52
  have I56 := Lib.hid (fun W g => is4_any p4 p6 k hi lo W (N.gr (w' := W) g))
  have I51 := Lib.hid (fun W g => is6_any p4 p6 k hi lo W (N.gr (w' := W) g))
  have A0 := Lib.hid (fun W => v4_0 hi lo (zp p4 p6 k) W lo0)
  have A1 := Lib.hid (fun W => v4_1 hi lo (zp p4 p6 k) W lo0)
  have A6 := Lib.hid (fun W => v6u16_0 hi lo (zp p4 p6 k) W hi0 hi1)
  have h4 : (k == some false) = false := by rw [beq_iff_eq.1 h6]; rfl
  rw [h4] at I56
  rw [h6] at I51
  clear h4
  clear A0 A1
  clear N h lo0
  go_enter Tryd.func50, Tryd.ntmps50
  go_wp2_with fail
  refine (I52.out _ ((Gr.refl w).alloc _)).mono ?_
  rintro e w1 ⟨rfl, hg⟩
  have hlt1 : w.heap.size < w1.heap.size := by have := hg.size; (try simp at this); omega
  obtain ⟨hc1, hf1⟩ := hg.cells
  have HG1 : Hid (Gr w w1) := (((Gr.refl w).alloc _)).trans hg
  clear hg
  go_wp2_with fail
  refine (I56.out _ HG1.out).mono ?_
  rintro e w2 ⟨rfl, hg⟩
  have hlt2 : w.heap.size < w2.heap.size := by have := hg.size; (try simp at this); omega
  obtain ⟨hc2, hf2⟩ := hg.cells
  have HG2 : Hid (Gr w w2) := (HG1.out).trans hg
  clear hg
  go_wp2_with fail
  refine (I51.out _ HG2.out).mono ?_
  rintro e w3 ⟨rfl, hg⟩
  have hlt3 : w.heap.size < w3.heap.size := by have := hg.size; (try simp at this); omega
  obtain ⟨hc3, hf3⟩ := hg.cells
  have HG3 : Hid (Gr w w3) := (HG2.out).trans hg
  clear hg
  go_wp2_with fail
  refine (A6.out _).mono ?_
  rintro e w4 ⟨rfl, hg⟩
  have hlt4 : w.heap.size < w4.heap.size := by have := hg.size; (try simp at this); omega
  obtain ⟨hc4, hf4⟩ := hg.cells
  have HG4 : Hid (Gr w w4) := (HG3.out).trans hg
  clear hg
  go_wp2_with fail
  go_ret
  exact ⟨by first | rfl | simp, HG4.out⟩

set_option maxHeartbeats 2000000 in
set_option maxRecDepth 100000 in
theorem isMulticast_6 (p4 p6 : Addr) (k : Option Bool) (hi lo : Int) (w : World) (N : Net p4 p6 w) (lo0 : 0 ≤ lo) (hi0 : 0 ≤ hi) (hi1 : hi < 18446744073709551616) (h : in6B k hi lo = false) (h6 : (k == some true) = true) :
    Calls Tryd.prog 54 #[.agg #[.int .u64 hi, .int .u64 lo, .pointer (zp p4 p6 k)]] w fun e w' => e = .returned (.bool (hi / 72057594037927936 == 255)) ∧ Gr w w' := by
  have I52 := Lib.hid (fun W g => is4In6_any p4 p6 k hi lo W (N.gr (w' := W) g) lo0)
  rw [h] at I52
  have I56 := Lib.hid (fun W g => is4_any p4 p6 k hi lo W (N.gr (w' := W) g))
  have I51 := Lib.hid (fun W g => is6_any p4 p6 k hi lo W (N.gr (w' := W) g))
  have A0 := Lib.hid (fun W => v4_0 hi lo (zp p4 p6 k) W lo0)
  have A1 := Lib.hid (fun W => v4_1 hi lo (zp p4 p6 k) W lo0)
  have A6 := Lib.hid (fun W => v6u16_0 hi lo (zp p4 p6 k) W hi0 hi1)
  have h4 : (k == some false) = false := by rw [beq_iff_eq.1 h6]; rfl
  rw [h4] at I56
  rw [h6] at I51
  clear h4
  clear A0 A1 A6
  clear N h lo0
  go_enter Tryd.func54, Tryd.ntmps54
  go_wp2_with fail
  refine (I52.out _ ((Gr.refl w).alloc _)).mono ?_
  rintro e w1 ⟨rfl, hg⟩
  have hlt1 : w.heap.size < w1.heap.size := by have := hg.size; (try simp at this); omega
  obtain ⟨hc1, hf1⟩ := hg.cells
  have HG1 : Hid (Gr w w1) := (((Gr.refl w).alloc _)).trans hg
  clear hg
  go_wp2_with fail
  refine (I56.out _ HG1.out).mono ?_
  rintro e w2 ⟨rfl, hg⟩
  have hlt2 : w.heap.size < w2.heap.size := by have := hg.size; (try simp at this); omega
  obtain ⟨hc2, hf2⟩ := hg.cells
  have HG2 : Hid (Gr w w2) := (HG1.out).trans hg
  clear hg
  go_wp2_with fail
  refine (I51.out _ HG2.out).mono ?_
  rintro e w3 ⟨rfl, hg⟩
  have hlt3 : w.heap.size < w3.heap.size := by have := hg.size; (try simp at this); omega
  obtain ⟨hc3, hf3⟩ := hg.cells
  have HG3 : Hid (Gr w w3) := (HG2.out).trans hg
  clear hg
  go_wp2_with fail
  go_ret
  exact ⟨by first | rfl | simp, HG3.out⟩
end Go.Proofs.YtbejikpopealdaaDoor
