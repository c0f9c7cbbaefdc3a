/-
  netip.AddrFrom4, AddrFrom16 and AddrFromSlice: the address that four or sixteen bytes spell.
-/
import Derived.Test.YtbejikpopealdaaDoorQNetB
import Derived.Deep.RegionWith
import Derived.Deep.RegionHeld3
import Derived.BigRegion
namespace Go.Proofs.YtbejikpopealdaaDoor
open Go.RowKit

/-- The low half of an address of IPv4. -/
def lo4 (x0 x1 x2 x3 : Int) : Int := 281470681743360 + x0 * 16777216 + x1 * 65536 + x2 * 256 + x3

theorem bor_hi (i a b : Nat) (hb : b < 2 ^ i) (ha : 2 ^ i * a < 18446744073709551616) (hs : 2 ^ i * a + b < 18446744073709551616) (x y : Int) (hx : x = ((2 ^ i * a : Nat) : Int)) (hy : y = (b : Int)) :
    bits .or .u64 x y = x + y := by
  subst hx hy
  rw [u64_or_nat _ _ ha (by omega), ← Nat.two_pow_add_eq_or_of_lt hb]
  push_cast
  rfl
theorem bor4 (x0 x1 x2 x3 : Int) (h0 : Byt x0) (h1 : Byt x1) (h2 : Byt x2) (h3 : Byt x3) :
    bits .or .u64 (bits .or .u64 (bits .or .u64 (bits .or .u64 281470681743360 (x0 * 16777216)) (x1 * 65536)) (x2 * 256)) x3 = lo4 x0 x1 x2 x3 := by
  obtain ⟨a0, b0⟩ := h0; obtain ⟨a1, b1⟩ := h1; obtain ⟨a2, b2⟩ := h2; obtain ⟨a3, b3⟩ := h3
  obtain ⟨n0, rfl⟩ := Int.eq_ofNat_of_zero_le a0
  obtain ⟨n1, rfl⟩ := Int.eq_ofNat_of_zero_le a1
  obtain ⟨n2, rfl⟩ := Int.eq_ofNat_of_zero_le a2
  obtain ⟨n3, rfl⟩ := Int.eq_ofNat_of_zero_le a3
  rw [bor_hi 32 65535 (n0 * 16777216) (by omega) (by omega) (by omega) 281470681743360 (n0 * 16777216) (by omega) (by omega)]
  rw [bor_hi 24 (16776960 + n0) (n1 * 65536) (by omega) (by omega) (by omega) (281470681743360 + n0 * 16777216) (n1 * 65536) (by omega) (by omega)]
  rw [bor_hi 16 (4294901760 + n0 * 256 + n1) (n2 * 256) (by omega) (by omega) (by omega) (281470681743360 + n0 * 16777216 + n1 * 65536) (n2 * 256) (by omega) (by omega)]
  rw [bor_hi 8 (1099494850560 + n0 * 65536 + n1 * 256 + n2) n3 (by omega) (by omega) (by omega) (281470681743360 + n0 * 16777216 + n1 * 65536 + n2 * 256) n3 (by omega) (by omega)]
  unfold lo4; omega

set_option maxHeartbeats 1000000 in
set_option maxRecDepth 100000 in
theorem addrFrom4 (p4 p6 : Addr) (x0 x1 x2 x3 : Int) (h0 : Byt x0) (h1 : Byt x1) (h2 : Byt x2) (h3 : Byt x3) (w : World) (N : Net p4 p6 w) :
    Calls Tryd.prog 45 #[.agg #[.int .u8 x0, .int .u8 x1, .int .u8 x2, .int .u8 x3]] w fun e w' => e = .returned (.agg #[.int .u64 0, .int .u64 (lo4 x0 x1 x2 x3), .pointer (zp p4 p6 (some false))]) ∧ Gr w w' := by
  have G4 := N.g4
  have S2 := N.sz
  have S1 : 1 < w.heap.size := by omega
  have S0 : 0 < w.heap.size := by omega
  have B := Lib.hid (bor4 x0 x1 x2 x3 h0 h1 h2 h3)
  have T : Hid _ := Lib.hid N
  obtain ⟨a0, b0⟩ := h0; obtain ⟨a1, b1⟩ := h1; obtain ⟨a2, b2⟩ := h2; obtain ⟨a3, b3⟩ := h3
  clear N
  go_enter Tryd.func45, Tryd.ntmps45
  go_wp2
  rw [B.out]
  exact bodyPost_ret (v := .agg #[.int .u64 0, .int .u64 (lo4 x0 x1 x2 x3), .pointer (some p4)]) (by simp [results, Tryd.results45, go_sem]) rfl ⟨rfl, ((Gr.refl w).alloc _).alloc _⟩

set_option maxHeartbeats 4000000 in
set_option maxRecDepth 100000 in
theorem addrFrom16 (p4 p6 : Addr) (x0 x1 x2 x3 x4 x5 x6 x7 y0 y1 y2 y3 y4 y5 y6 y7 : Int)
    (h0 : Byt x0) (h1 : Byt x1) (h2 : Byt x2) (h3 : Byt x3) (h4 : Byt x4) (h5 : Byt x5) (h6 : Byt x6) (h7 : Byt x7)
    (k0 : Byt y0) (k1 : Byt y1) (k2 : Byt y2) (k3 : Byt y3) (k4 : Byt y4) (k5 : Byt y5) (k6 : Byt y6) (k7 : Byt y7) (w : World) (N : Net p4 p6 w) :
    Calls Tryd.prog 46 #[.agg #[.int .u8 x0, .int .u8 x1, .int .u8 x2, .int .u8 x3, .int .u8 x4, .int .u8 x5, .int .u8 x6, .int .u8 x7, .int .u8 y0, .int .u8 y1, .int .u8 y2, .int .u8 y3, .int .u8 y4, .int .u8 y5, .int .u8 y6, .int .u8 y7]] w
      fun e w' => e = .returned (.agg #[.int .u64 (be8 x0 x1 x2 x3 x4 x5 x6 x7), .int .u64 (be8 y0 y1 y2 y3 y4 y5 y6 y7), .pointer (zp p4 p6 (some true))]) ∧ Gr w w' := by
  have G6 := N.g6
  have S2 := N.sz
  have S1 : 1 < w.heap.size := by omega
  have S0 : 0 < w.heap.size := by omega
  have T : Hid _ := Lib.hid N
  clear N
  have n1 : ¬ (1 = w.heap.size + 1) := by omega
  have n2 : ¬ (w.heap.size + 1 = 1) := by omega
  go_enter Tryd.func46, Tryd.ntmps46
  go_wp2_with fail
  go_region_held3 (fun w' => w'.cell? ⟨1, 0, none⟩ = some (.pointer (some p6))) (first | assumption | (simp [*]; done) | (simp [go_sem, *]; done))
    (first
      | (go_at_call_of 64 (Value.slice (some ⟨w.heap.size, 0, none⟩) 8 16); refine (beUint64 _ _ _ _ x0 x1 x2 x3 x4 x5 x6 x7 _ ?_ h0 h1 h2 h3 h4 h5 h6 h7 ?_ ?_ ?_ ?_ ?_ ?_ ?_ ?_).mono ?_; rotate_right; (rintro e w' ⟨rfl, q, rfl⟩); all_goals try (first | omega | (simp; done)))
      | (go_at_call_of 64 (Value.slice (some ⟨w.heap.size, 8, none⟩) 8 8); refine (beUint64 _ _ _ _ y0 y1 y2 y3 y4 y5 y6 y7 _ ?_ k0 k1 k2 k3 k4 k5 k6 k7 ?_ ?_ ?_ ?_ ?_ ?_ ?_ ?_).mono ?_; rotate_right; (rintro e w' ⟨rfl, q, rfl⟩); all_goals try (first | omega | (simp; done))))
  go_wp2
  exact bodyPost_ret (v := .agg #[.int .u64 (be8 x0 x1 x2 x3 x4 x5 x6 x7), .int .u64 (be8 y0 y1 y2 y3 y4 y5 y6 y7), .pointer (some p6)]) (by simp [results, Tryd.results46, go_sem]) rfl
    ⟨rfl, ((((((Gr.refl w).alloc _).alloc _).drewN _).setCell (by simp) _).setCell (by simp) _).setCell (by simp) _⟩
end Go.Proofs.YtbejikpopealdaaDoor
/-
  netip.AddrFromSlice, whatever the bytes: the family by their number, the two halves by their values.
-/
namespace Go.Proofs.YtbejikpopealdaaDoor
open Go.RowKit

/-- The slice value with this address holds these bytes. -/
def HoldsB (w : World) (a : Option Addr) (zs : List Int) : Prop :=
  (∀ z ∈ zs, Byt z) ∧ (zs = [] ∨ ∃ b off, a = some ⟨b, off, none⟩ ∧ b < w.heap.size ∧ ∀ i, i < zs.length → w.cell? ⟨b, off + i, none⟩ = some (.int .u8 (zs.getD i 0)))

theorem HoldsB.gr {w w' : World} {a : Option Addr} {zs : List Int} (h : HoldsB w a zs) (g : Gr w w') : HoldsB w' a zs := by
  obtain ⟨h1, h2⟩ := h
  refine ⟨h1, ?_⟩
  rcases h2 with h2 | ⟨b, off, e, hb, hc⟩
  · exact Or.inl h2
  · exact Or.inr ⟨b, off, e, Nat.lt_of_lt_of_le hb g.size, fun i hi => g.cell (p := ⟨b, off + i, none⟩) hb (hc i hi)⟩

/-- The family of an address of so many bytes. -/
def famOf (zs : List Int) : Option Bool := if zs.length = 4 then some false else if zs.length = 16 then some true else none
def hiOf (zs : List Int) : Int := if zs.length = 16 then be8 (zs.getD 0 0) (zs.getD 1 0) (zs.getD 2 0) (zs.getD 3 0) (zs.getD 4 0) (zs.getD 5 0) (zs.getD 6 0) (zs.getD 7 0) else 0
def loOf (zs : List Int) : Int := if zs.length = 16 then be8 (zs.getD 8 0) (zs.getD 9 0) (zs.getD 10 0) (zs.getD 11 0) (zs.getD 12 0) (zs.getD 13 0) (zs.getD 14 0) (zs.getD 15 0) else if zs.length = 4 then lo4 (zs.getD 0 0) (zs.getD 1 0) (zs.getD 2 0) (zs.getD 3 0) else 0

set_option maxHeartbeats 4000000 in
set_option maxRecDepth 100000 in
theorem fromSlice4 (p4 p6 : Addr) (b off c : Nat) (x0 x1 x2 x3 : Int) (h0 : Byt x0) (h1 : Byt x1) (h2 : Byt x2) (h3 : Byt x3) (w : World) (N : Net p4 p6 w) (hb : b < w.heap.size)
    (c0 : w.cell? ⟨b, off, none⟩ = some (.int .u8 x0)) (c1 : w.cell? ⟨b, off + 1, none⟩ = some (.int .u8 x1)) (c2 : w.cell? ⟨b, off + 2, none⟩ = some (.int .u8 x2)) (c3 : w.cell? ⟨b, off + 3, none⟩ = some (.int .u8 x3)) :
    Calls Tryd.prog 36 #[.slice (some ⟨b, off, none⟩) 4 c] w fun e w' => e = .returned (.tuple #[.agg #[.int .u64 0, .int .u64 (lo4 x0 x1 x2 x3), .pointer (zp p4 p6 (some false))], .bool true]) ∧ Gr w w' := by
  have NA := Lib.hid (fun o => N.alloc o)
  have S0 : 0 < w.heap.size := by have := N.sz; omega
  clear N
  have ka : ∀ W : World, (Instr.arrayAt 82 (.slice (some ⟨b, off, none⟩) 4 c)).run Tryd.prog W = .ok (.pointer (some ⟨b, off, none⟩)) W := fun W => run_arrayAt W 82 5 4 _ 4 c Tryd.underlying82 (Nat.le_refl _)
  have H0 := Lib.hid h0; have H1 := Lib.hid h1; have H2 := Lib.hid h2; have H3 := Lib.hid h3
  clear h0 h1 h2 h3
  go_enter Tryd.func36, Tryd.ntmps36
  go_wp2_with (go_at_call 45; refine (addrFrom4 p4 p6 x0 x1 x2 x3 H0.out H1.out H2.out H3.out _ (NA.out _)).mono ?_; rintro e w1 ⟨rfl, hg⟩; obtain ⟨hc, hf⟩ := hg.cells; have hg' := Lib.hid hg; clear hg)
  have hc := hg'.out.cells.1
  exact bodyPost_ret (v := .tuple #[.agg #[.int .u64 0, .int .u64 (lo4 x0 x1 x2 x3), .pointer (zp p4 p6 (some false))], .bool true]) (by simp [results, Tryd.results36, go_sem, hc]) rfl
    ⟨rfl, (((((Gr.refl w).alloc _).trans hg'.out).setCell (by simp) _).setCell (by simp) _).setCell (by simp) _⟩

set_option maxHeartbeats 4000000 in
set_option maxRecDepth 100000 in
theorem fromSlice16 (p4 p6 : Addr) (b off c : Nat) (x0 x1 x2 x3 x4 x5 x6 x7 x8 x9 x10 x11 x12 x13 x14 x15 : Int) (h0 : Byt x0) (h1 : Byt x1) (h2 : Byt x2) (h3 : Byt x3) (h4 : Byt x4) (h5 : Byt x5) (h6 : Byt x6) (h7 : Byt x7) (h8 : Byt x8) (h9 : Byt x9) (h10 : Byt x10) (h11 : Byt x11) (h12 : Byt x12) (h13 : Byt x13) (h14 : Byt x14) (h15 : Byt x15) (w : World) (N : Net p4 p6 w) (hb : b < w.heap.size)
    (c0 : w.cell? ⟨b, off, none⟩ = some (.int .u8 x0)) (c1 : w.cell? ⟨b, off + 1, none⟩ = some (.int .u8 x1)) (c2 : w.cell? ⟨b, off + 2, none⟩ = some (.int .u8 x2)) (c3 : w.cell? ⟨b, off + 3, none⟩ = some (.int .u8 x3)) (c4 : w.cell? ⟨b, off + 4, none⟩ = some (.int .u8 x4)) (c5 : w.cell? ⟨b, off + 5, none⟩ = some (.int .u8 x5)) (c6 : w.cell? ⟨b, off + 6, none⟩ = some (.int .u8 x6)) (c7 : w.cell? ⟨b, off + 7, none⟩ = some (.int .u8 x7)) (c8 : w.cell? ⟨b, off + 8, none⟩ = some (.int .u8 x8)) (c9 : w.cell? ⟨b, off + 9, none⟩ = some (.int .u8 x9)) (c10 : w.cell? ⟨b, off + 10, none⟩ = some (.int .u8 x10)) (c11 : w.cell? ⟨b, off + 11, none⟩ = some (.int .u8 x11)) (c12 : w.cell? ⟨b, off + 12, none⟩ = some (.int .u8 x12)) (c13 : w.cell? ⟨b, off + 13, none⟩ = some (.int .u8 x13)) (c14 : w.cell? ⟨b, off + 14, none⟩ = some (.int .u8 x14)) (c15 : w.cell? ⟨b, off + 15, none⟩ = some (.int .u8 x15)) :
    Calls Tryd.prog 36 #[.slice (some ⟨b, off, none⟩) 16 c] w fun e w' => e = .returned (.tuple #[.agg #[.int .u64 (be8 x0 x1 x2 x3 x4 x5 x6 x7), .int .u64 (be8 x8 x9 x10 x11 x12 x13 x14 x15), .pointer (zp p4 p6 (some true))], .bool true]) ∧ Gr w w' := by
  have NA := Lib.hid (fun o => N.alloc o)
  have S0 : 0 < w.heap.size := by have := N.sz; omega
  clear N
  have ka : ∀ W : World, (Instr.arrayAt 84 (.slice (some ⟨b, off, none⟩) 16 c)).run Tryd.prog W = .ok (.pointer (some ⟨b, off, none⟩)) W := fun W => run_arrayAt W 84 5 16 _ 16 c Tryd.underlying84 (Nat.le_refl _)
  have H0 := Lib.hid h0; have H1 := Lib.hid h1; have H2 := Lib.hid h2; have H3 := Lib.hid h3; have H4 := Lib.hid h4; have H5 := Lib.hid h5; have H6 := Lib.hid h6; have H7 := Lib.hid h7; have H8 := Lib.hid h8; have H9 := Lib.hid h9; have H10 := Lib.hid h10; have H11 := Lib.hid h11; have H12 := Lib.hid h12; have H13 := Lib.hid h13; have H14 := Lib.hid h14; have H15 := Lib.hid h15
  clear h0 h1 h2 h3 h4 h5 h6 h7 h8 h9 h10 h11 h12 h13 h14 h15
  go_enter Tryd.func36, Tryd.ntmps36
  go_wp2_with (go_at_call 46; refine (addrFrom16 p4 p6 x0 x1 x2 x3 x4 x5 x6 x7 x8 x9 x10 x11 x12 x13 x14 x15 H0.out H1.out H2.out H3.out H4.out H5.out H6.out H7.out H8.out H9.out H10.out H11.out H12.out H13.out H14.out H15.out _ (NA.out _)).mono ?_; rintro e w1 ⟨rfl, hg⟩; obtain ⟨hc, hf⟩ := hg.cells; have hg' := Lib.hid hg; clear hg)
  have hc := hg'.out.cells.1
  exact bodyPost_ret (v := .tuple #[.agg #[.int .u64 (be8 x0 x1 x2 x3 x4 x5 x6 x7), .int .u64 (be8 x8 x9 x10 x11 x12 x13 x14 x15), .pointer (zp p4 p6 (some true))], .bool true]) (by simp [results, Tryd.results36, go_sem, hc]) rfl
    ⟨rfl, (((((Gr.refl w).alloc _).trans hg'.out).setCell (by simp) _).setCell (by simp) _).setCell (by simp) _⟩

set_option maxHeartbeats 4000000 in
set_option maxRecDepth 100000 in
theorem fromSliceNo (a : Option Addr) (n c : Nat) (h4 : n ≠ 4) (h16 : n ≠ 16) (w : World) :
    Calls Tryd.prog 36 #[.slice a n c] w fun e w' => e = .returned (.tuple #[.agg #[.int .u64 0, .int .u64 0, .pointer none], .bool false]) ∧ Gr w w' := by
  have k4 : ((n : Int) == 4) = false := by rw [beq_eq_false_iff_ne]; omega
  have k16 : ((n : Int) == 16) = false := by rw [beq_eq_false_iff_ne]; omega
  clear h4 h16
  go_enter Tryd.func36, Tryd.ntmps36
  go_wp2
  exact bodyPost_ret (v := .tuple #[.agg #[.int .u64 0, .int .u64 0, .pointer none], .bool false]) (by simp [results, Tryd.results36, go_sem]) rfl
    ⟨rfl, (Gr.refl w).alloc _⟩

theorem fromSlice (p4 p6 : Addr) (a : Option Addr) (zs : List Int) (c : Nat) (w : World) (N : Net p4 p6 w) (h : HoldsB w a zs) :
    Calls Tryd.prog 36 #[.slice a zs.length c] w fun e w' => e = .returned (.tuple #[.agg #[.int .u64 (hiOf zs), .int .u64 (loOf zs), .pointer (zp p4 p6 (famOf zs))], .bool (famOf zs).isSome]) ∧ Gr w w' := by
  obtain ⟨B, h2⟩ := h
  by_cases h4 : zs.length = 4
  · rcases h2 with rfl | ⟨b, off, rfl, hb, C⟩
    · simp at h4
    · match zs, h4 with
      | [x0, x1, x2, x3], _ => exact fromSlice4 p4 p6 b off c x0 x1 x2 x3 (B x0 (by simp)) (B x1 (by simp)) (B x2 (by simp)) (B x3 (by simp)) w N hb (C 0 (by simp)) (C 1 (by simp)) (C 2 (by simp)) (C 3 (by simp))
  by_cases h16 : zs.length = 16
  · rcases h2 with rfl | ⟨b, off, rfl, hb, C⟩
    · simp at h16
    · match zs, h16 with
      | [x0, x1, x2, x3, x4, x5, x6, x7, x8, x9, x10, x11, x12, x13, x14, x15], _ => exact fromSlice16 p4 p6 b off c x0 x1 x2 x3 x4 x5 x6 x7 x8 x9 x10 x11 x12 x13 x14 x15 (B x0 (by simp)) (B x1 (by simp)) (B x2 (by simp)) (B x3 (by simp)) (B x4 (by simp)) (B x5 (by simp)) (B x6 (by simp)) (B x7 (by simp)) (B x8 (by simp)) (B x9 (by simp)) (B x10 (by simp)) (B x11 (by simp)) (B x12 (by simp)) (B x13 (by simp)) (B x14 (by simp)) (B x15 (by simp)) w N hb (C 0 (by simp)) (C 1 (by simp)) (C 2 (by simp)) (C 3 (by simp)) (C 4 (by simp)) (C 5 (by simp)) (C 6 (by simp)) (C 7 (by simp)) (C 8 (by simp)) (C 9 (by simp)) (C 10 (by simp)) (C 11 (by simp)) (C 12 (by simp)) (C 13 (by simp)) (C 14 (by simp)) (C 15 (by simp))
  · have := fromSliceNo a zs.length c h4 h16 w
    unfold hiOf loOf famOf
    rw [if_neg h16, if_neg h16, if_neg h4, if_neg h4, if_neg h16]
    exact this
end Go.Proofs.YtbejikpopealdaaDoor
/-
  (IP).To4 and isZeros of the package: which sixteen bytes are a mapped address of IPv4.
-/
namespace Go.Proofs.YtbejikpopealdaaDoor
open Go.RowKit

/-- Only zeros. -/
def allZ (zs : List Int) : Bool := zs.all (· == 0)

theorem allZ_snoc (zs : List Int) (k : Nat) (h : k < zs.length) : allZ (zs.take (k + 1)) = (allZ (zs.take k) && (zs.getD k 0 == 0)) := by
  unfold allZ
  rw [List.take_succ_eq_append_getElem h, List.all_append]
  simp [h]
theorem allZ_false (zs : List Int) (k : Nat) (h : k < zs.length) (h0 : (zs.getD k 0 == 0) = false) : allZ zs = false := by
  unfold allZ
  rw [List.all_eq_false]
  refine ⟨zs[k], List.getElem_mem h, ?_⟩
  rw [List.getD_eq_getElem?_getD, List.getElem?_eq_getElem h] at h0
  simpa using h0

set_option maxHeartbeats 1000000 in
theorem isZeros_any (b off c : Nat) (zs : List Int) (w : World) (hl : zs.length ≤ 1000)
    (hc : ∀ i, i < zs.length → w.cell? ⟨b, off + i, none⟩ = some (.int .u8 (zs.getD i 0))) :
    Calls Tryd.prog 65 #[.slice (some ⟨b, off, none⟩) zs.length c] w fun e w' => e = .returned (.bool (allZ zs)) ∧ w = w' := by
  have HC := Lib.hid hc
  clear hc
  obtain ⟨n, hn⟩ : ∃ n, n = zs.length := ⟨_, rfl⟩
  rw [← hn] at hl ⊢
  have HN := Lib.hid hn
  clear hn
  go_enter Tryd.func65, Tryd.ntmps65
  go_wp2
  go_loop [3] (fun i => ∃ k : Nat, k ≤ n ∧ i = .int .i64 k ∧ Hid (allZ (zs.take k) = true)) (fun i => n - (intOf i).toNat)
  case atStart => exact ⟨0, Nat.zero_le _, rfl, rfl⟩
  case round =>
    obtain ⟨k, hk, rfl, HZ⟩ := hrel
    by_cases hlt : k < n
    · have hcell := HC.out k (by rw [← HN.out]; exact hlt)
      have hkz : k < zs.length := by rw [← HN.out]; exact hlt
      obtain ⟨z, hzz⟩ : ∃ z, z = zs.getD k 0 := ⟨_, rfl⟩
      rw [← hzz] at hcell
      cases hz : (z == 0) with
      | true =>
        have hz' : (z != 0) = false := by rw [bne, hz]; rfl
        have HZ2 : Hid (allZ (zs.take (k + 1)) = true) := by show _ = _; rw [allZ_snoc zs k hkz, HZ.out, ← hzz, hz]; rfl
        clear hz hzz
        go_wp2
        go_round
        case rel => exact ⟨k + 1, by omega, by go_num, HZ2⟩
        case measure => simp [intOf]; omega
      | false =>
        have hz' : (z != 0) = true := by rw [bne, hz]; rfl
        have HF := Lib.hid (allZ_false zs k hkz (by rw [← hzz]; exact hz))
        clear hz hzz
        go_wp2
        go_ret
        exact ⟨by rw [HF.out]; rfl, rfl⟩
    · have HF : Hid (allZ zs = true) := by
        have := HZ.out
        rwa [List.take_of_length_le (by rw [← HN.out]; omega)] at this
      go_wp2
      go_ret
      exact ⟨by rw [HF.out]; rfl, rfl⟩

/-- Sixteen bytes that spell a mapped address of IPv4. -/
def mapd (zs : List Int) : Bool := allZ (zs.take 10) && zs.getD 10 0 == 255 && zs.getD 11 0 == 255

/-- What To4 gives back. -/
def to4v (a : Option Addr) (zs : List Int) (c : Nat) : Value :=
  if zs.length = 4 then .slice a 4 c else if zs.length = 16 ∧ mapd zs = true then .slice (a.map fun x => ⟨x.block, x.off + 12, none⟩) 4 (c - 12) else .slice none 0 0

set_option maxHeartbeats 1000000 in
theorem to4_four (a : Option Addr) (c : Nat) (w : World) :
    Calls Tryd.prog 47 #[.slice a 4 c] w fun e w' => e = .returned (.slice a 4 c) ∧ w = w' := by
  go_enter Tryd.func47, Tryd.ntmps47
  go_wp2
  go_ret
  exact ⟨rfl, rfl⟩

set_option maxHeartbeats 1000000 in
theorem to4_else (a : Option Addr) (n c : Nat) (h4 : n ≠ 4) (h16 : n ≠ 16) (w : World) :
    Calls Tryd.prog 47 #[.slice a n c] w fun e w' => e = .returned (.slice none 0 0) ∧ w = w' := by
  have k4 : ((n : Int) == 4) = false := by rw [beq_eq_false_iff_ne]; omega
  have k16 : ((n : Int) == 16) = false := by rw [beq_eq_false_iff_ne]; omega
  clear h4 h16
  go_enter Tryd.func47, Tryd.ntmps47
  go_wp2
  go_ret
  exact ⟨rfl, rfl⟩

theorem take10 {w : World} {b off : Nat} {zs : List Int} (h : zs.length = 16) (hc : ∀ i, i < zs.length → w.cell? ⟨b, off + i, none⟩ = some (.int .u8 (zs.getD i 0))) :
    (zs.take 10).length = 10 ∧ ∀ i, i < (zs.take 10).length → w.cell? ⟨b, off + i, none⟩ = some (.int .u8 ((zs.take 10).getD i 0)) := by
  have hl : (zs.take 10).length = 10 := by simp [h]
  refine ⟨hl, fun i hi => ?_⟩
  rw [hl] at hi
  rw [hc i (by omega)]
  simp [hi]

set_option maxHeartbeats 1000000 in
theorem to4_16 (b off c : Nat) (hcap : 16 ≤ c) (zs : List Int) (h : zs.length = 16) (w : World)
    (hc : ∀ i, i < zs.length → w.cell? ⟨b, off + i, none⟩ = some (.int .u8 (zs.getD i 0))) :
    Calls Tryd.prog 47 #[.slice (some ⟨b, off, none⟩) 16 c] w fun e w' => e = .returned (if mapd zs = true then .slice (some ⟨b, off + 12, none⟩) 4 (c - 12) else .slice none 0 0) ∧ w = w' := by
  obtain ⟨h10, hc10⟩ := take10 h hc
  have hz := isZeros_any b off c (zs.take 10) w (by omega) hc10
  rw [h10] at hz
  have HZ := Lib.hid hz
  have ca := hc 10 (by omega)
  have cb := hc 11 (by omega)
  unfold mapd
  obtain ⟨x, hx⟩ : ∃ x, x = zs.getD 10 0 := ⟨_, rfl⟩
  obtain ⟨y, hy⟩ : ∃ y, y = zs.getD 11 0 := ⟨_, rfl⟩
  rw [← hx] at ca ⊢
  rw [← hy] at cb ⊢
  clear hx hy hz hc hc10 h10 h
  generalize allZ (zs.take 10) = z at *
  cases z <;> cases hx : (x == 255) <;> cases hy : (y == 255) <;>
  · go_enter Tryd.func47, Tryd.ntmps47
    go_wp2_with (go_at_call 65; refine HZ.out.mono ?_; rintro e w' ⟨rfl, rfl⟩)
    go_ret
    exact ⟨by simp, rfl⟩
end Go.Proofs.YtbejikpopealdaaDoor
