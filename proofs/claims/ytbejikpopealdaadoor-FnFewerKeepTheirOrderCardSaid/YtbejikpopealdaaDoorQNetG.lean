/-
  (netip.Addr).AsSlice: the bytes of an address in new memory.
-/
import Derived.Test.YtbejikpopealdaaDoorQNetE
import Derived.Deep.RegionHeld3
import Derived.BigRegion
namespace Go.Proofs.YtbejikpopealdaaDoor
open Go.RowKit

/-- The sixteen bytes of an address of IPv6. -/
def bytes16 (hi lo : Int) : List Int := [hi / 72057594037927936, hi / 281474976710656 % 256, hi / 1099511627776 % 256, hi / 4294967296 % 256, hi / 16777216 % 256, hi / 65536 % 256, hi / 256 % 256, hi % 256, lo / 72057594037927936, lo / 281474976710656 % 256, lo / 1099511627776 % 256, lo / 4294967296 % 256, lo / 16777216 % 256, lo / 65536 % 256, lo / 256 % 256, lo % 256]
/-- The four bytes of an address of IPv4. -/
def bytes4 (lo : Int) : List Int := [lo % 4294967296 / 16777216, lo % 4294967296 / 65536 % 256, lo % 4294967296 / 256 % 256, lo % 256]
theorem bytes16_byt (hi lo : Int) (h0 : 0 ≤ hi) (h1 : hi < 18446744073709551616) (h2 : 0 ≤ lo) (h3 : lo < 18446744073709551616) : ∀ z ∈ bytes16 hi lo, Byt z := by
  unfold bytes16 Byt
  intro z hz
  simp only [List.mem_cons, List.not_mem_nil, or_false] at hz
  rcases hz with h | h | h | h | h | h | h | h | h | h | h | h | h | h | h | h <;> (subst h; omega)
theorem bytes4_byt (lo : Int) : ∀ z ∈ bytes4 lo, Byt z := by
  unfold bytes4 Byt
  intro z hz
  simp only [List.mem_cons, List.not_mem_nil, or_false] at hz
  rcases hz with h | h | h | h <;> (subst h; omega)

set_option maxHeartbeats 1000000 in
set_option maxRecDepth 100000 in
theorem asSlice_no (p4 p6 : Addr) (hi lo : Int) (w : World) (N : Net p4 p6 w) :
    Calls Tryd.prog 48 #[.agg #[.int .u64 hi, .int .u64 lo, .pointer none]] w fun e w' => e = .returned (.slice none 0 0) ∧ Gr w w' := by
  have G0 := N.g0
  have G4 := N.g4
  have S2 := N.sz
  have S1 : 1 < w.heap.size := by omega
  have S0 : 0 < w.heap.size := by omega
  have e1 := nilEq
  have e2 := sameEq
  have e5 := nilEq'
  clear N
  go_enter Tryd.func48, Tryd.ntmps48
  go_wp2
  go_ret
  exact ⟨rfl, (Gr.refl w).alloc _⟩

set_option maxHeartbeats 4000000 in
set_option maxRecDepth 100000 in
theorem asSlice_16 (p4 p6 : Addr) (hi lo : Int) (hi0 : 0 ≤ hi) (hi1 : hi < 18446744073709551616) (lo0 : 0 ≤ lo) (lo1 : lo < 18446744073709551616) (w : World) (N : Net p4 p6 w) :
    Calls Tryd.prog 48 #[.agg #[.int .u64 hi, .int .u64 lo, .pointer (some p6)]] w fun e w' => e = .returned (.slice (some ⟨w.heap.size + 1, 0, none⟩) 16 16) ∧ Gr w w' ∧ HoldsB w' (some ⟨w.heap.size + 1, 0, none⟩) (bytes16 hi lo) := by
  have G0 := N.g0
  have G4 := N.g4
  have S2 := N.sz
  have S1 : 1 < w.heap.size := by omega
  have S0 : 0 < w.heap.size := by omega
  have e1 := nilEq
  have e2 := sameEq
  have e5 := nilEq'
  have e4 := (N.alloc (.cells #[.int .u64 hi, .int .u64 lo, .pointer (some p6)] 55)).eq64
  have T : Hid _ := Lib.hid N
  clear N
  have V := Lib.hid (And.intro hi0 (And.intro hi1 (And.intro lo0 lo1)))
  clear hi0 hi1 lo0 lo1
  go_enter Tryd.func48, Tryd.ntmps48
  go_wp2_with fail
  go_region_held3 (fun w' => w'.cell? ⟨w.heap.size, 0, none⟩ = some (.int .u64 hi) ∧ w'.cell? ⟨w.heap.size, 1, none⟩ = some (.int .u64 lo)) (first | assumption | (simp [go_sem]; done) | (simp [go_sem, *]; done))
    (first
      | (go_at_call 67; refine (bePut64 _ _ _ _ hi ?_ ?_ (.int .u8 0) (.int .u8 0) (.int .u8 0) (.int .u8 0) (.int .u8 0) (.int .u8 0) (.int .u8 0) (.int .u8 0) _ ?_ ?_ ?_ ?_ ?_ ?_ ?_ ?_ ?_ ?_ ?_ ?_ ?_ ?_ ?_ ?_ ?_).mono ?_; rotate_right; (rintro e w' ⟨rfl, rfl⟩); all_goals try (first | exact V.out.1 | exact V.out.2.1 | exact V.out.2.2.1 | exact V.out.2.2.2 | omega | (simp; done))))
  go_wp2_with fail
  go_region_held3 (fun w' => w'.cell? ⟨w.heap.size, 0, none⟩ = some (.int .u64 hi) ∧ w'.cell? ⟨w.heap.size, 1, none⟩ = some (.int .u64 lo)) (first | assumption | (simp [go_sem]; done) | (simp [go_sem, *]; done))
    (first
      | (go_at_call 67; refine (bePut64 _ _ _ _ lo ?_ ?_ (.int .u8 0) (.int .u8 0) (.int .u8 0) (.int .u8 0) (.int .u8 0) (.int .u8 0) (.int .u8 0) (.int .u8 0) _ ?_ ?_ ?_ ?_ ?_ ?_ ?_ ?_ ?_ ?_ ?_ ?_ ?_ ?_ ?_ ?_ ?_).mono ?_; rotate_right; (rintro e w' ⟨rfl, rfl⟩); all_goals try (first | exact V.out.1 | exact V.out.2.1 | exact V.out.2.2.1 | exact V.out.2.2.2 | omega | (simp; done))))
  go_wp2
  go_ret
  refine ⟨rfl, (((Gr.refl w).alloc _).alloc _).drew.drew, bytes16_byt hi lo V.out.1 V.out.2.1 V.out.2.2.1 V.out.2.2.2, Or.inr ⟨_, 0, rfl, by simp, fun i hi' => ?_⟩⟩
  match i, hi' with
  | 0, _ => simp [bytes16] | 1, _ => simp [bytes16] | 2, _ => simp [bytes16] | 3, _ => simp [bytes16] | 4, _ => simp [bytes16] | 5, _ => simp [bytes16] | 6, _ => simp [bytes16] | 7, _ => simp [bytes16] | 8, _ => simp [bytes16] | 9, _ => simp [bytes16] | 10, _ => simp [bytes16] | 11, _ => simp [bytes16] | 12, _ => simp [bytes16] | 13, _ => simp [bytes16] | 14, _ => simp [bytes16] | 15, _ => simp [bytes16]
  | n + 16, h => simp [bytes16] at h; omega

set_option maxHeartbeats 4000000 in
set_option maxRecDepth 100000 in
theorem asSlice_4 (p4 p6 : Addr) (hi lo : Int) (w : World) (N : Net p4 p6 w) :
    Calls Tryd.prog 48 #[.agg #[.int .u64 hi, .int .u64 lo, .pointer (some p4)]] w fun e w' => e = .returned (.slice (some ⟨w.heap.size + 1, 0, none⟩) 4 4) ∧ Gr w w' ∧ HoldsB w' (some ⟨w.heap.size + 1, 0, none⟩) (bytes4 lo) := by
  have G0 := N.g0
  have G4 := N.g4
  have S2 := N.sz
  have S1 : 1 < w.heap.size := by omega
  have S0 : 0 < w.heap.size := by omega
  have e1 := nilEq
  have e2 := sameEq
  have e5 := nilEq'
  clear N
  go_enter Tryd.func48, Tryd.ntmps48
  go_wp2_with fail
  go_region_held3 (fun w' => w'.cell? ⟨w.heap.size, 0, none⟩ = some (.int .u64 hi) ∧ w'.cell? ⟨w.heap.size, 1, none⟩ = some (.int .u64 lo)) (first | assumption | (simp [go_sem]; done) | (simp [go_sem, *]; done))
    (first
      | (go_at_call 66; refine (bePut32 _ _ _ _ (lo % 4294967296) ?_ ?_ (.int .u8 0) (.int .u8 0) (.int .u8 0) (.int .u8 0) _ ?_ ?_ ?_ ?_ ?_ ?_ ?_ ?_ ?_).mono ?_; rotate_right; (rintro e w' ⟨rfl, rfl⟩); all_goals try (first | omega | (simp; done))))
  go_wp2
  go_ret
  refine ⟨rfl, (((Gr.refl w).alloc _).alloc _).drew, bytes4_byt lo, Or.inr ⟨_, 0, rfl, by simp, fun i hi' => ?_⟩⟩
  match i, hi' with
  | 0, _ => simp [bytes4] | 1, _ => simp [bytes4] | 2, _ => simp [bytes4] | 3, _ => simp [bytes4]
  | n + 4, h => simp [bytes4] at h; omega
end Go.Proofs.YtbejikpopealdaaDoor
/-
  netip.Addr's Is4In6, Unmap, v4, v6u16 (with halves), As16 and withoutZone, walked.
-/
namespace Go.Proofs.YtbejikpopealdaaDoor
open Go.RowKit

/-- A mapped address of IPv4, as Is4In6 asks it. -/
def in6B (k : Option Bool) (hi lo : Int) : Bool := k == some true && hi == 0 && lo / 4294967296 == 65535
/-- The family behind Unmap. -/
def unmK (k : Option Bool) (hi lo : Int) : Option Bool := if in6B k hi lo = true then some false else k

set_option maxHeartbeats 1000000 in
set_option maxRecDepth 100000 in
theorem is4In6_any (p4 p6 : Addr) (k : Option Bool) (hi lo : Int) (w : World) (N : Net p4 p6 w) (_lo0 : 0 ≤ lo) :
    Calls Tryd.prog 52 #[.agg #[.int .u64 hi, .int .u64 lo, .pointer (zp p4 p6 k)]] w fun e w' => e = .returned (.bool (in6B k hi lo)) ∧ Gr w w' := by
  have I6 := Lib.hid (fun W g => is6_any p4 p6 k hi lo W (N.gr (w' := W) g))
  have SZ := N.sz
  unfold in6B
  clear N
  cases h1 : (k == some true) <;> cases h2 : (hi == 0) <;> cases h3 : (lo / 4294967296 == 65535) <;> rw [h1] at I6 <;>
  · go_enter Tryd.func52, Tryd.ntmps52
    go_wp2_with (go_at_call 51; refine (I6.out _ ((Gr.refl w).alloc _)).mono ?_; rintro e w1 ⟨rfl, hg⟩; obtain ⟨hc, hf⟩ := hg.cells; have HG := Lib.hid hg; clear hg)
    go_ret
    exact ⟨rfl, ((Gr.refl w).alloc _).trans HG.out⟩

set_option maxHeartbeats 1000000 in
set_option maxRecDepth 100000 in
theorem unmap_any (p4 p6 : Addr) (k : Option Bool) (hi lo : Int) (w : World) (N : Net p4 p6 w) (lo0 : 0 ≤ lo) :
    Calls Tryd.prog 68 #[.agg #[.int .u64 hi, .int .u64 lo, .pointer (zp p4 p6 k)]] w fun e w' => e = .returned (.agg #[.int .u64 hi, .int .u64 lo, .pointer (zp p4 p6 (unmK k hi lo))]) ∧ Gr w w' := by
  have I6 := Lib.hid (fun W g => is4In6_any p4 p6 k hi lo W (N.gr (w' := W) g) lo0)
  have G4 := N.g4
  have S2 := N.sz
  have S0 : 0 < w.heap.size := by omega
  have n0 : ¬ (w.heap.size = 0) := by omega
  have n1 : ¬ (w.heap.size + 1 = 0) := by omega
  unfold unmK
  clear N
  cases h1 : in6B k hi lo <;> rw [h1] at I6
  · go_enter Tryd.func68, Tryd.ntmps68
    go_wp2_with (go_at_call 52; refine (I6.out _ (((Gr.refl w).alloc _).alloc _)).mono ?_; rintro e w1 ⟨rfl, hg⟩; obtain ⟨hc, hf⟩ := hg.cells; have HG := Lib.hid hg; clear hg)
    have hc := HG.out.cells.1
    exact bodyPost_ret (v := .agg #[.int .u64 hi, .int .u64 lo, .pointer (zp p4 p6 k)]) (by simp [results, Tryd.results68, go_sem, hc]) rfl
      ⟨rfl, (((((((Gr.refl w).alloc _).alloc _).trans HG.out).setCell (by simp) _).setCell (by simp) _).setCell (by simp) _)⟩
  · go_enter Tryd.func68, Tryd.ntmps68
    go_wp2_with (go_at_call 52; refine (I6.out _ (((Gr.refl w).alloc _).alloc _)).mono ?_; rintro e w1 ⟨rfl, hg⟩; obtain ⟨hc, hf⟩ := hg.cells; have hx : ∀ v, (w1.setCell ⟨w.heap.size, 2, none⟩ v).cell? ⟨w.heap.size, 2, none⟩ = some v := fun v => World.cell?_setCell_same' _ _ _ (by rw [hc _ _ (by simp; omega)]; simp); have HG := Lib.hid hg; clear hg)
    have hc := HG.out.cells.1
    exact bodyPost_ret (v := .agg #[.int .u64 hi, .int .u64 lo, .pointer (some p4)]) (by simp [results, Tryd.results68, go_sem, hc]) rfl
      ⟨rfl, (((((((Gr.refl w).alloc _).alloc _).trans HG.out).setCell (by simp) _).setCell (by simp) _).setCell (by simp) _).setCell (by simp) _⟩

set_option maxHeartbeats 1000000 in
set_option maxRecDepth 100000 in
theorem v4_0 (hi lo : Int) (z : Option Addr) (w : World) (_lo0 : 0 ≤ lo) :
    Calls Tryd.prog 69 #[.agg #[.int .u64 hi, .int .u64 lo, .pointer z], .int .u8 0] w fun e w' => e = .returned (.int .u8 (lo / 16777216 % 256)) ∧ Gr w w' := by
  go_enter Tryd.func69, Tryd.ntmps69
  go_wp2
  go_ret
  exact ⟨rfl, (Gr.refl w).alloc _⟩
set_option maxHeartbeats 1000000 in
set_option maxRecDepth 100000 in
theorem v4_1 (hi lo : Int) (z : Option Addr) (w : World) (_lo0 : 0 ≤ lo) :
    Calls Tryd.prog 69 #[.agg #[.int .u64 hi, .int .u64 lo, .pointer z], .int .u8 1] w fun e w' => e = .returned (.int .u8 (lo / 65536 % 256)) ∧ Gr w w' := by
  go_enter Tryd.func69, Tryd.ntmps69
  go_wp2
  go_ret
  exact ⟨rfl, (Gr.refl w).alloc _⟩

set_option maxHeartbeats 1000000 in
set_option maxRecDepth 100000 in
theorem halves_any (b : Nat) (w : World) :
    Calls Tryd.prog 89 #[.pointer (some ⟨b, 0, none⟩)] w fun e w' => e = .returned (.agg #[.pointer (some ⟨b, 0, none⟩), .pointer (some ⟨b, 1, none⟩)]) ∧ Gr w w' := by
  go_enter Tryd.func89, Tryd.ntmps89
  go_wp2
  go_region
  all_goals
    go_wp2
    exact bodyPost_ret (v := .agg #[.pointer (some ⟨b, 0, none⟩), .pointer (some ⟨b, 1, none⟩)]) (by simp [results, Tryd.results89, go_sem]) rfl ⟨rfl, ((Gr.refl w).alloc _).drew⟩

theorem idx123 (B : Nat) (w : World) : (Instr.index 123 (.agg #[.pointer (some ⟨B, 0, none⟩), .pointer (some ⟨B, 1, none⟩)]) (.int .u8 0)).run Tryd.prog w = .ok (.pointer (some ⟨B, 0, none⟩)) w := by kernel_rfl

set_option maxHeartbeats 1000000 in
set_option maxRecDepth 100000 in
theorem v6u16_0 (hi lo : Int) (z : Option Addr) (w : World) (hi0 : 0 ≤ hi) (hi1 : hi < 18446744073709551616) :
    Calls Tryd.prog 70 #[.agg #[.int .u64 hi, .int .u64 lo, .pointer z], .int .u8 0] w fun e w' => e = .returned (.int .u16 (hi / 281474976710656)) ∧ Gr w w' := by
  have ix := idx123
  go_enter Tryd.func70, Tryd.ntmps70
  go_wp2_with (go_at_call 89; refine (halves_any _ _).mono ?_; rintro e w1 ⟨rfl, hg⟩; obtain ⟨hc, hf⟩ := hg.cells; have HG := Lib.hid hg; clear hg)
  go_ret
  exact ⟨rfl, ((Gr.refl w).alloc _).trans HG.out⟩

/-- The sixteen bytes as an array's value. -/
def as16V (hi lo : Int) : Value := .agg #[.int .u8 (hi / 72057594037927936), .int .u8 (hi / 281474976710656 % 256), .int .u8 (hi / 1099511627776 % 256), .int .u8 (hi / 4294967296 % 256), .int .u8 (hi / 16777216 % 256), .int .u8 (hi / 65536 % 256), .int .u8 (hi / 256 % 256), .int .u8 (hi % 256), .int .u8 (lo / 72057594037927936), .int .u8 (lo / 281474976710656 % 256), .int .u8 (lo / 1099511627776 % 256), .int .u8 (lo / 4294967296 % 256), .int .u8 (lo / 16777216 % 256), .int .u8 (lo / 65536 % 256), .int .u8 (lo / 256 % 256), .int .u8 (lo % 256)]

set_option maxHeartbeats 4000000 in
set_option maxRecDepth 100000 in
theorem as16_any (hi lo : Int) (z : Option Addr) (hi0 : 0 ≤ hi) (hi1 : hi < 18446744073709551616) (lo0 : 0 ≤ lo) (lo1 : lo < 18446744073709551616) (w : World) :
    Calls Tryd.prog 53 #[.agg #[.int .u64 hi, .int .u64 lo, .pointer z]] w fun e w' => e = .returned (as16V hi lo) ∧ Gr w w' := by
  have V := Lib.hid (And.intro hi0 (And.intro hi1 (And.intro lo0 lo1)))
  clear hi0 hi1 lo0 lo1
  go_enter Tryd.func53, Tryd.ntmps53
  go_wp2_with fail
  go_region_held3 (fun w' => w'.cell? ⟨w.heap.size, 0, none⟩ = some (.int .u64 hi) ∧ w'.cell? ⟨w.heap.size, 1, none⟩ = some (.int .u64 lo)) (first | assumption | (simp [go_sem]; done) | (simp [go_sem, *]; done))
    (first
      | (go_at_call 67; refine (bePut64 _ _ _ _ hi ?_ ?_ (.int .u8 0) (.int .u8 0) (.int .u8 0) (.int .u8 0) (.int .u8 0) (.int .u8 0) (.int .u8 0) (.int .u8 0) _ ?_ ?_ ?_ ?_ ?_ ?_ ?_ ?_ ?_ ?_ ?_ ?_ ?_ ?_ ?_ ?_ ?_).mono ?_; rotate_right; (rintro e w' ⟨rfl, rfl⟩); all_goals try (first | exact V.out.1 | exact V.out.2.1 | exact V.out.2.2.1 | exact V.out.2.2.2 | omega | (simp; done))))
  go_wp2_with fail
  go_region_held3 (fun w' => w'.cell? ⟨w.heap.size, 0, none⟩ = some (.int .u64 hi) ∧ w'.cell? ⟨w.heap.size, 1, none⟩ = some (.int .u64 lo)) (first | assumption | (simp [go_sem]; done) | (simp [go_sem, *]; done))
    (first
      | (go_at_call 67; refine (bePut64 _ _ _ _ lo ?_ ?_ (.int .u8 0) (.int .u8 0) (.int .u8 0) (.int .u8 0) (.int .u8 0) (.int .u8 0) (.int .u8 0) (.int .u8 0) _ ?_ ?_ ?_ ?_ ?_ ?_ ?_ ?_ ?_ ?_ ?_ ?_ ?_ ?_ ?_ ?_ ?_).mono ?_; rotate_right; (rintro e w' ⟨rfl, rfl⟩); all_goals try (first | exact V.out.1 | exact V.out.2.1 | exact V.out.2.2.1 | exact V.out.2.2.2 | omega | (simp; done))))
  go_wp2
  refine bodyPost_ret (v := as16V hi lo) (by simp [results, Tryd.results53, go_sem, as16V]) rfl ⟨rfl, ?_⟩
  repeat (first | exact ((Gr.refl w).alloc _).alloc _ | refine Gr.drew ?_ | refine Gr.setCell ?_ (by simp) _)

set_option maxHeartbeats 1000000 in
set_option maxRecDepth 100000 in
theorem withoutZone_any (p4 p6 : Addr) (k : Option Bool) (hi lo : Int) (w : World) (N : Net p4 p6 w) :
    Calls Tryd.prog 73 #[.agg #[.int .u64 hi, .int .u64 lo, .pointer (zp p4 p6 k)]] w fun e w' => e = .returned (.agg #[.int .u64 hi, .int .u64 lo, .pointer (zp p4 p6 k)]) ∧ Gr w w' := by
  have I6 := Lib.hid (fun W g => is6_any p4 p6 k hi lo W (N.gr (w' := W) g))
  have G6 := N.g6
  have S2 := N.sz
  have S1 : 1 < w.heap.size := by omega
  have S11 : 1 < w.heap.size + 1 := by omega
  have n0 : ¬ (w.heap.size = 1) := by omega
  have n1 : ¬ (w.heap.size + 1 = 1) := by omega
  have hk : (k == some true) = true → zp p4 p6 k = some p6 := fun h => by rw [beq_iff_eq.1 h]; rfl
  have HK := Lib.hid hk
  clear N hk
  cases h1 : (k == some true) <;> rw [h1] at I6
  · go_enter Tryd.func73, Tryd.ntmps73
    go_wp2_with (go_at_call 51; refine (I6.out _ (((Gr.refl w).alloc _).alloc _)).mono ?_; rintro e w1 ⟨rfl, hg⟩; obtain ⟨hc, hf⟩ := hg.cells; have HG := Lib.hid hg; clear hg)
    have hc := HG.out.cells.1
    exact bodyPost_ret (v := .agg #[.int .u64 hi, .int .u64 lo, .pointer (zp p4 p6 k)]) (by simp [results, Tryd.results73, go_sem, hc]) rfl
      ⟨rfl, (((((((Gr.refl w).alloc _).alloc _).trans HG.out).setCell (by simp) _).setCell (by simp) _).setCell (by simp) _)⟩
  · rw [HK.out h1]
    rw [HK.out h1] at I6
    clear HK h1
    go_enter Tryd.func73, Tryd.ntmps73
    go_wp2_with (go_at_call 51; refine (I6.out _ (((Gr.refl w).alloc _).alloc _)).mono ?_; rintro e w1 ⟨rfl, hg⟩; obtain ⟨hc, hf⟩ := hg.cells; have hx : ∀ v, (w1.setCell ⟨w.heap.size, 2, none⟩ v).cell? ⟨w.heap.size, 2, none⟩ = some v := fun v => World.cell?_setCell_same' _ _ _ (by rw [hc _ _ (by simp; omega)]; simp); have HG := Lib.hid hg; clear hg)
    have hc := HG.out.cells.1
    exact bodyPost_ret (v := .agg #[.int .u64 hi, .int .u64 lo, .pointer (some p6)]) (by simp [results, Tryd.results73, go_sem, hc]) rfl
      ⟨rfl, (((((((Gr.refl w).alloc _).alloc _).trans HG.out).setCell (by simp) _).setCell (by simp) _).setCell (by simp) _).setCell (by simp) _⟩
end Go.Proofs.YtbejikpopealdaaDoor
