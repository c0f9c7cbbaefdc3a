/-
  netip.AddrFrom4, AddrFrom16 and AddrFromSlice: the address that four or sixteen bytes spell.
-/
import Derived.Test.YtbejikpopealdaaDoorNetB
import Derived.Deep.RegionWith
import Derived.Deep.RegionHeld3
import Derived.BigRegion
namespace Go.Proofs.YtbejikpopealdaaDoor
open Go.RowKit

/-- The low half of an address of IPv4. -/
def lo4 (x0 x1 x2 x3 : Int) : Int := 281470681743360 + x0 * 16777216 + x1 * 65536 + x2 * 256 + x3

theorem bor_hi (i a b : Nat) (hb : b < 2 ^ i) (ha : 2 ^ i * a < 18446744073709551616) (hs : 2 ^ i * a + b < 18446744073709551616) (x y : Int) (hx : x = ((2 ^ i * a : Nat) : Int)) (hy : y = (b : Int)) :
    bits .or .u64 x y = x + y := by
  subst hx hy
  rw [u64_or_nat _ _ ha (by omega), ← Nat.two_pow_add_eq_or_of_lt hb]
  push_cast
  rfl
theorem bor4 (x0 x1 x2 x3 : Int) (h0 : Byt x0) (h1 : Byt x1) (h2 : Byt x2) (h3 : Byt x3) :
    bits .or .u64 (bits .or .u64 (bits .or .u64 (bits .or .u64 281470681743360 (x0 * 16777216)) (x1 * 65536)) (x2 * 256)) x3 = lo4 x0 x1 x2 x3 := by
  obtain ⟨a0, b0⟩ := h0; obtain ⟨a1, b1⟩ := h1; obtain ⟨a2, b2⟩ := h2; obtain ⟨a3, b3⟩ := h3
  obtain ⟨n0, rfl⟩ := Int.eq_ofNat_of_zero_le a0
  obtain ⟨n1, rfl⟩ := Int.eq_ofNat_of_zero_le a1
  obtain ⟨n2, rfl⟩ := Int.eq_ofNat_of_zero_le a2
  obtain ⟨n3, rfl⟩ := Int.eq_ofNat_of_zero_le a3
  rw [bor_hi 32 65535 (n0 * 16777216) (by omega) (by omega) (by omega) 281470681743360 (n0 * 16777216) (by omega) (by omega)]
  rw [bor_hi 24 (16776960 + n0) (n1 * 65536) (by omega) (by omega) (by omega) (281470681743360 + n0 * 16777216) (n1 * 65536) (by omega) (by omega)]
  rw [bor_hi 16 (4294901760 + n0 * 256 + n1) (n2 * 256) (by omega) (by omega) (by omega) (281470681743360 + n0 * 16777216 + n1 * 65536) (n2 * 256) (by omega) (by omega)]
  rw [bor_hi 8 (1099494850560 + n0 * 65536 + n1 * 256 + n2) n3 (by omega) (by omega) (by omega) (281470681743360 + n0 * 16777216 + n1 * 65536 + n2 * 256) n3 (by omega) (by omega)]
  unfold lo4; omega

set_option maxHeartbeats 1000000 in
set_option maxRecDepth 100000 in
theorem addrFrom4 (p4 p6 : Addr) (x0 x1 x2 x3 : Int) (h0 : Byt x0) (h1 : Byt x1) (h2 : Byt x2) (h3 : Byt x3) (w : World) (N : Net p4 p6 w) :
    Calls Tryd.prog 45 #[.agg #[.int .u8 x0, .int .u8 x1, .int .u8 x2, .int .u8 x3]] w fun e w' => e = .returned (.agg #[.int .u64 0, .int .u64 (lo4 x0 x1 x2 x3), .pointer (zp p4 p6 (some false))]) ∧ Gr w w' := by
  have G4 := N.g4
  have S2 := N.sz
  have S1 : 1 < w.heap.size := by omega
  have S0 : 0 < w.heap.size := by omega
  have B := Lib.hid (bor4 x0 x1 x2 x3 h0 h1 h2 h3)
  have T : Hid _ := Lib.hid N
  obtain ⟨a0, b0⟩ := h0; obtain ⟨a1, b1⟩ := h1; obtain ⟨a2, b2⟩ := h2; obtain ⟨a3, b3⟩ := h3
  clear N
  go_enter Tryd.func45, Tryd.ntmps45
  go_wp2
  rw [B.out]
  exact bodyPost_ret (v := .agg #[.int .u64 0, .int .u64 (lo4 x0 x1 x2 x3), .pointer (some p4)]) (by simp [results, Tryd.results45, go_sem]) rfl ⟨rfl, ((Gr.refl w).alloc _).alloc _⟩

set_option maxHeartbeats 4000000 in
set_option maxRecDepth 100000 in
theorem addrFrom16 (p4 p6 : Addr) (x0 x1 x2 x3 x4 x5 x6 x7 y0 y1 y2 y3 y4 y5 y6 y7 : Int)
    (h0 : Byt x0) (h1 : Byt x1) (h2 : Byt x2) (h3 : Byt x3) (h4 : Byt x4) (h5 : Byt x5) (h6 : Byt x6) (h7 : Byt x7)
    (k0 : Byt y0) (k1 : Byt y1) (k2 : Byt y2) (k3 : Byt y3) (k4 : Byt y4) (k5 : Byt y5) (k6 : Byt y6) (k7 : Byt y7) (w : World) (N : Net p4 p6 w) :
    Calls Tryd.prog 46 #[.agg #[.int .u8 x0, .int .u8 x1, .int .u8 x2, .int .u8 x3, .int .u8 x4, .int .u8 x5, .int .u8 x6, .int .u8 x7, .int .u8 y0, .int .u8 y1, .int .u8 y2, .int .u8 y3, .int .u8 y4, .int .u8 y5, .int .u8 y6, .int .u8 y7]] w
      fun e w' => e = .returned (.agg #[.int .u64 (be8 x0 x1 x2 x3 x4 x5 x6 x7), .int .u64 (be8 y0 y1 y2 y3 y4 y5 y6 y7), .pointer (zp p4 p6 (some true))]) ∧ Gr w w' := by
  have G6 := N.g6
  have S2 := N.sz
  have S1 : 1 < w.heap.size := by omega
  have S0 : 0 < w.heap.size := by omega
  have T : Hid _ := Lib.hid N
  clear N
  have n1 : ¬ (1 = w.heap.size + 1) := by omega
  have n2 : ¬ (w.heap.size + 1 = 1) := by omega
  go_enter Tryd.func46, Tryd.ntmps46
  go_wp2_with fail
  go_region_held3 (fun w' => w'.cell? ⟨1, 0, none⟩ = some (.pointer (some p6))) (first | assumption | (simp [*]; done) | (simp [go_sem, *]; done))
    (first
      | (go_at_call_of 64 (Value.slice (some ⟨w.heap.size, 0, none⟩) 8 16); refine (beUint64 _ _ _ _ x0 x1 x2 x3 x4 x5 x6 x7 _ ?_ h0 h1 h2 h3 h4 h5 h6 h7 ?_ ?_ ?_ ?_ ?_ ?_ ?_ ?_).mono ?_; rotate_right; (rintro e w' ⟨rfl, q, rfl⟩); all_goals try (first | omega | (simp; done)))
      | (go_at_call_of 64 (Value.slice (some ⟨w.heap.size, 8, none⟩) 8 8); refine (beUint64 _ _ _ _ y0 y1 y2 y3 y4 y5 y6 y7 _ ?_ k0 k1 k2 k3 k4 k5 k6 k7 ?_ ?_ ?_ ?_ ?_ ?_ ?_ ?_).mono ?_; rotate_right; (rintro e w' ⟨rfl, q, rfl⟩); all_goals try (first | omega | (simp; done))))
  go_wp2
  exact bodyPost_ret (v := .agg #[.int .u64 (be8 x0 x1 x2 x3 x4 x5 x6 x7), .int .u64 (be8 y0 y1 y2 y3 y4 y5 y6 y7), .pointer (some p6)]) (by simp [results, Tryd.results46, go_sem]) rfl
    ⟨rfl, ((((((Gr.refl w).alloc _).alloc _).drewN _).setCell (by simp) _).setCell (by simp) _).setCell (by simp) _⟩
end Go.Proofs.YtbejikpopealdaaDoor
