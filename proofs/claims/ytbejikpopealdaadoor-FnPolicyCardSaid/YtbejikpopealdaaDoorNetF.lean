/-
  (netip.Addr).AsSlice: the bytes of an address in new memory.
-/
import Derived.Test.YtbejikpopealdaaDoorNetE
import Derived.Deep.RegionHeld3
namespace Go.Proofs.YtbejikpopealdaaDoor
open Go.RowKit

/-- The sixteen bytes of an address of IPv6. -/
def bytes16 (hi lo : Int) : List Int := [hi / 72057594037927936, hi / 281474976710656 % 256, hi / 1099511627776 % 256, hi / 4294967296 % 256, hi / 16777216 % 256, hi / 65536 % 256, hi / 256 % 256, hi % 256, lo / 72057594037927936, lo / 281474976710656 % 256, lo / 1099511627776 % 256, lo / 4294967296 % 256, lo / 16777216 % 256, lo / 65536 % 256, lo / 256 % 256, lo % 256]
/-- The four bytes of an address of IPv4. -/
def bytes4 (lo : Int) : List Int := [lo % 4294967296 / 16777216, lo % 4294967296 / 65536 % 256, lo % 4294967296 / 256 % 256, lo % 256]
theorem bytes16_byt (hi lo : Int) (h0 : 0 ≤ hi) (h1 : hi < 18446744073709551616) (h2 : 0 ≤ lo) (h3 : lo < 18446744073709551616) : ∀ z ∈ bytes16 hi lo, Byt z := by
  unfold bytes16 Byt
  intro z hz
  simp only [List.mem_cons, List.not_mem_nil, or_false] at hz
  rcases hz with h | h | h | h | h | h | h | h | h | h | h | h | h | h | h | h <;> (subst h; omega)
theorem bytes4_byt (lo : Int) : ∀ z ∈ bytes4 lo, Byt z := by
  unfold bytes4 Byt
  intro z hz
  simp only [List.mem_cons, List.not_mem_nil, or_false] at hz
  rcases hz with h | h | h | h <;> (subst h; omega)

set_option maxHeartbeats 1000000 in
set_option maxRecDepth 100000 in
theorem asSlice_no (p4 p6 : Addr) (hi lo : Int) (w : World) (N : Net p4 p6 w) :
    Calls Tryd.prog 48 #[.agg #[.int .u64 hi, .int .u64 lo, .pointer none]] w fun e w' => e = .returned (.slice none 0 0) ∧ Gr w w' := by
  have G0 := N.g0
  have G4 := N.g4
  have S2 := N.sz
  have S1 : 1 < w.heap.size := by omega
  have S0 : 0 < w.heap.size := by omega
  have e1 := nilEq
  have e2 := sameEq
  have e5 := nilEq'
  clear N
  go_enter Tryd.func48, Tryd.ntmps48
  go_wp2
  go_ret
  exact ⟨rfl, (Gr.refl w).alloc _⟩

set_option maxHeartbeats 4000000 in
set_option maxRecDepth 100000 in
theorem asSlice_16 (p4 p6 : Addr) (hi lo : Int) (hi0 : 0 ≤ hi) (hi1 : hi < 18446744073709551616) (lo0 : 0 ≤ lo) (lo1 : lo < 18446744073709551616) (w : World) (N : Net p4 p6 w) :
    Calls Tryd.prog 48 #[.agg #[.int .u64 hi, .int .u64 lo, .pointer (some p6)]] w fun e w' => e = .returned (.slice (some ⟨w.heap.size + 1, 0, none⟩) 16 16) ∧ Gr w w' ∧ HoldsB w' (some ⟨w.heap.size + 1, 0, none⟩) (bytes16 hi lo) := by
  have G0 := N.g0
  have G4 := N.g4
  have S2 := N.sz
  have S1 : 1 < w.heap.size := by omega
  have S0 : 0 < w.heap.size := by omega
  have e1 := nilEq
  have e2 := sameEq
  have e5 := nilEq'
  have e4 := (N.alloc (.cells #[.int .u64 hi, .int .u64 lo, .pointer (some p6)] 55)).eq64
  have T : Hid _ := Lib.hid N
  clear N
  have V := Lib.hid (And.intro hi0 (And.intro hi1 (And.intro lo0 lo1)))
  clear hi0 hi1 lo0 lo1
  go_enter Tryd.func48, Tryd.ntmps48
  go_wp2_with fail
  go_region_held3 (fun w' => w'.cell? ⟨w.heap.size, 0, none⟩ = some (.int .u64 hi) ∧ w'.cell? ⟨w.heap.size, 1, none⟩ = some (.int .u64 lo)) (first | assumption | (simp [go_sem]; done) | (simp [go_sem, *]; done))
    (first
      | (go_at_call 67; refine (bePut64 _ _ _ _ hi ?_ ?_ (.int .u8 0) (.int .u8 0) (.int .u8 0) (.int .u8 0) (.int .u8 0) (.int .u8 0) (.int .u8 0) (.int .u8 0) _ ?_ ?_ ?_ ?_ ?_ ?_ ?_ ?_ ?_ ?_ ?_ ?_ ?_ ?_ ?_ ?_ ?_).mono ?_; rotate_right; (rintro e w' ⟨rfl, rfl⟩); all_goals try (first | exact V.out.1 | exact V.out.2.1 | exact V.out.2.2.1 | exact V.out.2.2.2 | omega | (simp; done))))
  go_wp2_with fail
  go_region_held3 (fun w' => w'.cell? ⟨w.heap.size, 0, none⟩ = some (.int .u64 hi) ∧ w'.cell? ⟨w.heap.size, 1, none⟩ = some (.int .u64 lo)) (first | assumption | (simp [go_sem]; done) | (simp [go_sem, *]; done))
    (first
      | (go_at_call 67; refine (bePut64 _ _ _ _ lo ?_ ?_ (.int .u8 0) (.int .u8 0) (.int .u8 0) (.int .u8 0) (.int .u8 0) (.int .u8 0) (.int .u8 0) (.int .u8 0) _ ?_ ?_ ?_ ?_ ?_ ?_ ?_ ?_ ?_ ?_ ?_ ?_ ?_ ?_ ?_ ?_ ?_).mono ?_; rotate_right; (rintro e w' ⟨rfl, rfl⟩); all_goals try (first | exact V.out.1 | exact V.out.2.1 | exact V.out.2.2.1 | exact V.out.2.2.2 | omega | (simp; done))))
  go_wp2
  go_ret
  refine ⟨rfl, (((Gr.refl w).alloc _).alloc _).drew.drew, bytes16_byt hi lo V.out.1 V.out.2.1 V.out.2.2.1 V.out.2.2.2, Or.inr ⟨_, 0, rfl, by simp, fun i hi' => ?_⟩⟩
  match i, hi' with
  | 0, _ => simp [bytes16] | 1, _ => simp [bytes16] | 2, _ => simp [bytes16] | 3, _ => simp [bytes16] | 4, _ => simp [bytes16] | 5, _ => simp [bytes16] | 6, _ => simp [bytes16] | 7, _ => simp [bytes16] | 8, _ => simp [bytes16] | 9, _ => simp [bytes16] | 10, _ => simp [bytes16] | 11, _ => simp [bytes16] | 12, _ => simp [bytes16] | 13, _ => simp [bytes16] | 14, _ => simp [bytes16] | 15, _ => simp [bytes16]
  | n + 16, h => simp [bytes16] at h; omega

set_option maxHeartbeats 4000000 in
set_option maxRecDepth 100000 in
theorem asSlice_4 (p4 p6 : Addr) (hi lo : Int) (w : World) (N : Net p4 p6 w) :
    Calls Tryd.prog 48 #[.agg #[.int .u64 hi, .int .u64 lo, .pointer (some p4)]] w fun e w' => e = .returned (.slice (some ⟨w.heap.size + 1, 0, none⟩) 4 4) ∧ Gr w w' ∧ HoldsB w' (some ⟨w.heap.size + 1, 0, none⟩) (bytes4 lo) := by
  have G0 := N.g0
  have G4 := N.g4
  have S2 := N.sz
  have S1 : 1 < w.heap.size := by omega
  have S0 : 0 < w.heap.size := by omega
  have e1 := nilEq
  have e2 := sameEq
  have e5 := nilEq'
  clear N
  go_enter Tryd.func48, Tryd.ntmps48
  go_wp2_with fail
  go_region_held3 (fun w' => w'.cell? ⟨w.heap.size, 0, none⟩ = some (.int .u64 hi) ∧ w'.cell? ⟨w.heap.size, 1, none⟩ = some (.int .u64 lo)) (first | assumption | (simp [go_sem]; done) | (simp [go_sem, *]; done))
    (first
      | (go_at_call 66; refine (bePut32 _ _ _ _ (lo % 4294967296) ?_ ?_ (.int .u8 0) (.int .u8 0) (.int .u8 0) (.int .u8 0) _ ?_ ?_ ?_ ?_ ?_ ?_ ?_ ?_ ?_).mono ?_; rotate_right; (rintro e w' ⟨rfl, rfl⟩); all_goals try (first | omega | (simp; done))))
  go_wp2
  go_ret
  refine ⟨rfl, (((Gr.refl w).alloc _).alloc _).drew, bytes4_byt lo, Or.inr ⟨_, 0, rfl, by simp, fun i hi' => ?_⟩⟩
  match i, hi' with
  | 0, _ => simp [bytes4] | 1, _ => simp [bytes4] | 2, _ => simp [bytes4] | 3, _ => simp [bytes4]
  | n + 4, h => simp [bytes4] at h; omega
end Go.Proofs.YtbejikpopealdaaDoor
