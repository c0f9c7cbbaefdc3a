/-
  netip.Addr's Is4In6, Unmap, v4, v6u16 (with halves), As16 and withoutZone, walked.
-/
import Derived.Test.YtbejikpopealdaaDoorNetF
import Derived.BigRegion
import Derived.Deep.RegionHeld3
namespace Go.Proofs.YtbejikpopealdaaDoor
open Go.RowKit

/-- A mapped address of IPv4, as Is4In6 asks it. -/
def in6B (k : Option Bool) (hi lo : Int) : Bool := k == some true && hi == 0 && lo / 4294967296 == 65535
/-- The family behind Unmap. -/
def unmK (k : Option Bool) (hi lo : Int) : Option Bool := if in6B k hi lo = true then some false else k

set_option maxHeartbeats 1000000 in
set_option maxRecDepth 100000 in
theorem is4In6_any (p4 p6 : Addr) (k : Option Bool) (hi lo : Int) (w : World) (N : Net p4 p6 w) (_lo0 : 0 ≤ lo) :
    Calls Tryd.prog 52 #[.agg #[.int .u64 hi, .int .u64 lo, .pointer (zp p4 p6 k)]] w fun e w' => e = .returned (.bool (in6B k hi lo)) ∧ Gr w w' := by
  have I6 := Lib.hid (fun W g => is6_any p4 p6 k hi lo W (N.gr (w' := W) g))
  have SZ := N.sz
  unfold in6B
  clear N
  cases h1 : (k == some true) <;> cases h2 : (hi == 0) <;> cases h3 : (lo / 4294967296 == 65535) <;> rw [h1] at I6 <;>
  · go_enter Tryd.func52, Tryd.ntmps52
    go_wp2_with (go_at_call 51; refine (I6.out _ ((Gr.refl w).alloc _)).mono ?_; rintro e w1 ⟨rfl, hg⟩; obtain ⟨hc, hf⟩ := hg.cells; have HG := Lib.hid hg; clear hg)
    go_ret
    exact ⟨rfl, ((Gr.refl w).alloc _).trans HG.out⟩

set_option maxHeartbeats 1000000 in
set_option maxRecDepth 100000 in
theorem unmap_any (p4 p6 : Addr) (k : Option Bool) (hi lo : Int) (w : World) (N : Net p4 p6 w) (lo0 : 0 ≤ lo) :
    Calls Tryd.prog 68 #[.agg #[.int .u64 hi, .int .u64 lo, .pointer (zp p4 p6 k)]] w fun e w' => e = .returned (.agg #[.int .u64 hi, .int .u64 lo, .pointer (zp p4 p6 (unmK k hi lo))]) ∧ Gr w w' := by
  have I6 := Lib.hid (fun W g => is4In6_any p4 p6 k hi lo W (N.gr (w' := W) g) lo0)
  have G4 := N.g4
  have S2 := N.sz
  have S0 : 0 < w.heap.size := by omega
  have n0 : ¬ (w.heap.size = 0) := by omega
  have n1 : ¬ (w.heap.size + 1 = 0) := by omega
  unfold unmK
  clear N
  cases h1 : in6B k hi lo <;> rw [h1] at I6
  · go_enter Tryd.func68, Tryd.ntmps68
    go_wp2_with (go_at_call 52; refine (I6.out _ (((Gr.refl w).alloc _).alloc _)).mono ?_; rintro e w1 ⟨rfl, hg⟩; obtain ⟨hc, hf⟩ := hg.cells; have HG := Lib.hid hg; clear hg)
    have hc := HG.out.cells.1
    exact bodyPost_ret (v := .agg #[.int .u64 hi, .int .u64 lo, .pointer (zp p4 p6 k)]) (by simp [results, Tryd.results68, go_sem, hc]) rfl
      ⟨rfl, (((((((Gr.refl w).alloc _).alloc _).trans HG.out).setCell (by simp) _).setCell (by simp) _).setCell (by simp) _)⟩
  · go_enter Tryd.func68, Tryd.ntmps68
    go_wp2_with (go_at_call 52; refine (I6.out _ (((Gr.refl w).alloc _).alloc _)).mono ?_; rintro e w1 ⟨rfl, hg⟩; obtain ⟨hc, hf⟩ := hg.cells; have hx : ∀ v, (w1.setCell ⟨w.heap.size, 2, none⟩ v).cell? ⟨w.heap.size, 2, none⟩ = some v := fun v => World.cell?_setCell_same' _ _ _ (by rw [hc _ _ (by simp; omega)]; simp); have HG := Lib.hid hg; clear hg)
    have hc := HG.out.cells.1
    exact bodyPost_ret (v := .agg #[.int .u64 hi, .int .u64 lo, .pointer (some p4)]) (by simp [results, Tryd.results68, go_sem, hc]) rfl
      ⟨rfl, (((((((Gr.refl w).alloc _).alloc _).trans HG.out).setCell (by simp) _).setCell (by simp) _).setCell (by simp) _).setCell (by simp) _⟩

set_option maxHeartbeats 1000000 in
set_option maxRecDepth 100000 in
theorem v4_0 (hi lo : Int) (z : Option Addr) (w : World) (_lo0 : 0 ≤ lo) :
    Calls Tryd.prog 69 #[.agg #[.int .u64 hi, .int .u64 lo, .pointer z], .int .u8 0] w fun e w' => e = .returned (.int .u8 (lo / 16777216 % 256)) ∧ Gr w w' := by
  go_enter Tryd.func69, Tryd.ntmps69
  go_wp2
  go_ret
  exact ⟨rfl, (Gr.refl w).alloc _⟩
set_option maxHeartbeats 1000000 in
set_option maxRecDepth 100000 in
theorem v4_1 (hi lo : Int) (z : Option Addr) (w : World) (_lo0 : 0 ≤ lo) :
    Calls Tryd.prog 69 #[.agg #[.int .u64 hi, .int .u64 lo, .pointer z], .int .u8 1] w fun e w' => e = .returned (.int .u8 (lo / 65536 % 256)) ∧ Gr w w' := by
  go_enter Tryd.func69, Tryd.ntmps69
  go_wp2
  go_ret
  exact ⟨rfl, (Gr.refl w).alloc _⟩

set_option maxHeartbeats 1000000 in
set_option maxRecDepth 100000 in
theorem halves_any (b : Nat) (w : World) :
    Calls Tryd.prog 89 #[.pointer (some ⟨b, 0, none⟩)] w fun e w' => e = .returned (.agg #[.pointer (some ⟨b, 0, none⟩), .pointer (some ⟨b, 1, none⟩)]) ∧ Gr w w' := by
  go_enter Tryd.func89, Tryd.ntmps89
  go_wp2
  go_region
  all_goals
    go_wp2
    exact bodyPost_ret (v := .agg #[.pointer (some ⟨b, 0, none⟩), .pointer (some ⟨b, 1, none⟩)]) (by simp [results, Tryd.results89, go_sem]) rfl ⟨rfl, ((Gr.refl w).alloc _).drew⟩

theorem idx123 (B : Nat) (w : World) : (Instr.index 123 (.agg #[.pointer (some ⟨B, 0, none⟩), .pointer (some ⟨B, 1, none⟩)]) (.int .u8 0)).run Tryd.prog w = .ok (.pointer (some ⟨B, 0, none⟩)) w := by kernel_rfl

set_option maxHeartbeats 1000000 in
set_option maxRecDepth 100000 in
theorem v6u16_0 (hi lo : Int) (z : Option Addr) (w : World) (hi0 : 0 ≤ hi) (hi1 : hi < 18446744073709551616) :
    Calls Tryd.prog 70 #[.agg #[.int .u64 hi, .int .u64 lo, .pointer z], .int .u8 0] w fun e w' => e = .returned (.int .u16 (hi / 281474976710656)) ∧ Gr w w' := by
  have ix := idx123
  go_enter Tryd.func70, Tryd.ntmps70
  go_wp2_with (go_at_call 89; refine (halves_any _ _).mono ?_; rintro e w1 ⟨rfl, hg⟩; obtain ⟨hc, hf⟩ := hg.cells; have HG := Lib.hid hg; clear hg)
  go_ret
  exact ⟨rfl, ((Gr.refl w).alloc _).trans HG.out⟩

/-- The sixteen bytes as an array's value. -/
def as16V (hi lo : Int) : Value := .agg #[.int .u8 (hi / 72057594037927936), .int .u8 (hi / 281474976710656 % 256), .int .u8 (hi / 1099511627776 % 256), .int .u8 (hi / 4294967296 % 256), .int .u8 (hi / 16777216 % 256), .int .u8 (hi / 65536 % 256), .int .u8 (hi / 256 % 256), .int .u8 (hi % 256), .int .u8 (lo / 72057594037927936), .int .u8 (lo / 281474976710656 % 256), .int .u8 (lo / 1099511627776 % 256), .int .u8 (lo / 4294967296 % 256), .int .u8 (lo / 16777216 % 256), .int .u8 (lo / 65536 % 256), .int .u8 (lo / 256 % 256), .int .u8 (lo % 256)]

set_option maxHeartbeats 4000000 in
set_option maxRecDepth 100000 in
theorem as16_any (hi lo : Int) (z : Option Addr) (hi0 : 0 ≤ hi) (hi1 : hi < 18446744073709551616) (lo0 : 0 ≤ lo) (lo1 : lo < 18446744073709551616) (w : World) :
    Calls Tryd.prog 53 #[.agg #[.int .u64 hi, .int .u64 lo, .pointer z]] w fun e w' => e = .returned (as16V hi lo) ∧ Gr w w' := by
  have V := Lib.hid (And.intro hi0 (And.intro hi1 (And.intro lo0 lo1)))
  clear hi0 hi1 lo0 lo1
  go_enter Tryd.func53, Tryd.ntmps53
  go_wp2_with fail
  go_region_held3 (fun w' => w'.cell? ⟨w.heap.size, 0, none⟩ = some (.int .u64 hi) ∧ w'.cell? ⟨w.heap.size, 1, none⟩ = some (.int .u64 lo)) (first | assumption | (simp [go_sem]; done) | (simp [go_sem, *]; done))
    (first
      | (go_at_call 67; refine (bePut64 _ _ _ _ hi ?_ ?_ (.int .u8 0) (.int .u8 0) (.int .u8 0) (.int .u8 0) (.int .u8 0) (.int .u8 0) (.int .u8 0) (.int .u8 0) _ ?_ ?_ ?_ ?_ ?_ ?_ ?_ ?_ ?_ ?_ ?_ ?_ ?_ ?_ ?_ ?_ ?_).mono ?_; rotate_right; (rintro e w' ⟨rfl, rfl⟩); all_goals try (first | exact V.out.1 | exact V.out.2.1 | exact V.out.2.2.1 | exact V.out.2.2.2 | omega | (simp; done))))
  go_wp2_with fail
  go_region_held3 (fun w' => w'.cell? ⟨w.heap.size, 0, none⟩ = some (.int .u64 hi) ∧ w'.cell? ⟨w.heap.size, 1, none⟩ = some (.int .u64 lo)) (first | assumption | (simp [go_sem]; done) | (simp [go_sem, *]; done))
    (first
      | (go_at_call 67; refine (bePut64 _ _ _ _ lo ?_ ?_ (.int .u8 0) (.int .u8 0) (.int .u8 0) (.int .u8 0) (.int .u8 0) (.int .u8 0) (.int .u8 0) (.int .u8 0) _ ?_ ?_ ?_ ?_ ?_ ?_ ?_ ?_ ?_ ?_ ?_ ?_ ?_ ?_ ?_ ?_ ?_).mono ?_; rotate_right; (rintro e w' ⟨rfl, rfl⟩); all_goals try (first | exact V.out.1 | exact V.out.2.1 | exact V.out.2.2.1 | exact V.out.2.2.2 | omega | (simp; done))))
  go_wp2
  refine bodyPost_ret (v := as16V hi lo) (by simp [results, Tryd.results53, go_sem, as16V]) rfl ⟨rfl, ?_⟩
  repeat (first | exact ((Gr.refl w).alloc _).alloc _ | refine Gr.drew ?_ | refine Gr.setCell ?_ (by simp) _)

set_option maxHeartbeats 1000000 in
set_option maxRecDepth 100000 in
theorem withoutZone_any (p4 p6 : Addr) (k : Option Bool) (hi lo : Int) (w : World) (N : Net p4 p6 w) :
    Calls Tryd.prog 73 #[.agg #[.int .u64 hi, .int .u64 lo, .pointer (zp p4 p6 k)]] w fun e w' => e = .returned (.agg #[.int .u64 hi, .int .u64 lo, .pointer (zp p4 p6 k)]) ∧ Gr w w' := by
  have I6 := Lib.hid (fun W g => is6_any p4 p6 k hi lo W (N.gr (w' := W) g))
  have G6 := N.g6
  have S2 := N.sz
  have S1 : 1 < w.heap.size := by omega
  have S11 : 1 < w.heap.size + 1 := by omega
  have n0 : ¬ (w.heap.size = 1) := by omega
  have n1 : ¬ (w.heap.size + 1 = 1) := by omega
  have hk : (k == some true) = true → zp p4 p6 k = some p6 := fun h => by rw [beq_iff_eq.1 h]; rfl
  have HK := Lib.hid hk
  clear N hk
  cases h1 : (k == some true) <;> rw [h1] at I6
  · go_enter Tryd.func73, Tryd.ntmps73
    go_wp2_with (go_at_call 51; refine (I6.out _ (((Gr.refl w).alloc _).alloc _)).mono ?_; rintro e w1 ⟨rfl, hg⟩; obtain ⟨hc, hf⟩ := hg.cells; have HG := Lib.hid hg; clear hg)
    have hc := HG.out.cells.1
    exact bodyPost_ret (v := .agg #[.int .u64 hi, .int .u64 lo, .pointer (zp p4 p6 k)]) (by simp [results, Tryd.results73, go_sem, hc]) rfl
      ⟨rfl, (((((((Gr.refl w).alloc _).alloc _).trans HG.out).setCell (by simp) _).setCell (by simp) _).setCell (by simp) _)⟩
  · rw [HK.out h1]
    rw [HK.out h1] at I6
    clear HK h1
    go_enter Tryd.func73, Tryd.ntmps73
    go_wp2_with (go_at_call 51; refine (I6.out _ (((Gr.refl w).alloc _).alloc _)).mono ?_; rintro e w1 ⟨rfl, hg⟩; obtain ⟨hc, hf⟩ := hg.cells; have hx : ∀ v, (w1.setCell ⟨w.heap.size, 2, none⟩ v).cell? ⟨w.heap.size, 2, none⟩ = some v := fun v => World.cell?_setCell_same' _ _ _ (by rw [hc _ _ (by simp; omega)]; simp); have HG := Lib.hid hg; clear hg)
    have hc := HG.out.cells.1
    exact bodyPost_ret (v := .agg #[.int .u64 hi, .int .u64 lo, .pointer (some p6)]) (by simp [results, Tryd.results73, go_sem, hc]) rfl
      ⟨rfl, (((((((Gr.refl w).alloc _).alloc _).trans HG.out).setCell (by simp) _).setCell (by simp) _).setCell (by simp) _).setCell (by simp) _⟩
end Go.Proofs.YtbejikpopealdaaDoor
