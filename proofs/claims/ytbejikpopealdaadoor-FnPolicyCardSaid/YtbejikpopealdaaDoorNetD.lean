/-
  netip.AddrFromSlice, whatever the bytes: the family by their number, the two halves by their values.
-/
import Derived.Test.YtbejikpopealdaaDoorNetC
namespace Go.Proofs.YtbejikpopealdaaDoor
open Go.RowKit

/-- The slice value with this address holds these bytes. -/
def HoldsB (w : World) (a : Option Addr) (zs : List Int) : Prop :=
  (∀ z ∈ zs, Byt z) ∧ (zs = [] ∨ ∃ b off, a = some ⟨b, off, none⟩ ∧ b < w.heap.size ∧ ∀ i, i < zs.length → w.cell? ⟨b, off + i, none⟩ = some (.int .u8 (zs.getD i 0)))

theorem HoldsB.gr {w w' : World} {a : Option Addr} {zs : List Int} (h : HoldsB w a zs) (g : Gr w w') : HoldsB w' a zs := by
  obtain ⟨h1, h2⟩ := h
  refine ⟨h1, ?_⟩
  rcases h2 with h2 | ⟨b, off, e, hb, hc⟩
  · exact Or.inl h2
  · exact Or.inr ⟨b, off, e, Nat.lt_of_lt_of_le hb g.size, fun i hi => g.cell (p := ⟨b, off + i, none⟩) hb (hc i hi)⟩

/-- The family of an address of so many bytes. -/
def famOf (zs : List Int) : Option Bool := if zs.length = 4 then some false else if zs.length = 16 then some true else none
def hiOf (zs : List Int) : Int := if zs.length = 16 then be8 (zs.getD 0 0) (zs.getD 1 0) (zs.getD 2 0) (zs.getD 3 0) (zs.getD 4 0) (zs.getD 5 0) (zs.getD 6 0) (zs.getD 7 0) else 0
def loOf (zs : List Int) : Int := if zs.length = 16 then be8 (zs.getD 8 0) (zs.getD 9 0) (zs.getD 10 0) (zs.getD 11 0) (zs.getD 12 0) (zs.getD 13 0) (zs.getD 14 0) (zs.getD 15 0) else if zs.length = 4 then lo4 (zs.getD 0 0) (zs.getD 1 0) (zs.getD 2 0) (zs.getD 3 0) else 0

set_option maxHeartbeats 4000000 in
set_option maxRecDepth 100000 in
theorem fromSlice4 (p4 p6 : Addr) (b off c : Nat) (x0 x1 x2 x3 : Int) (h0 : Byt x0) (h1 : Byt x1) (h2 : Byt x2) (h3 : Byt x3) (w : World) (N : Net p4 p6 w) (hb : b < w.heap.size)
    (c0 : w.cell? ⟨b, off, none⟩ = some (.int .u8 x0)) (c1 : w.cell? ⟨b, off + 1, none⟩ = some (.int .u8 x1)) (c2 : w.cell? ⟨b, off + 2, none⟩ = some (.int .u8 x2)) (c3 : w.cell? ⟨b, off + 3, none⟩ = some (.int .u8 x3)) :
    Calls Tryd.prog 36 #[.slice (some ⟨b, off, none⟩) 4 c] w fun e w' => e = .returned (.tuple #[.agg #[.int .u64 0, .int .u64 (lo4 x0 x1 x2 x3), .pointer (zp p4 p6 (some false))], .bool true]) ∧ Gr w w' := by
  have NA := Lib.hid (fun o => N.alloc o)
  have S0 : 0 < w.heap.size := by have := N.sz; omega
  clear N
  have ka : ∀ W : World, (Instr.arrayAt 82 (.slice (some ⟨b, off, none⟩) 4 c)).run Tryd.prog W = .ok (.pointer (some ⟨b, off, none⟩)) W := fun W => run_arrayAt W 82 5 4 _ 4 c Tryd.underlying82 (Nat.le_refl _)
  have H0 := Lib.hid h0; have H1 := Lib.hid h1; have H2 := Lib.hid h2; have H3 := Lib.hid h3
  clear h0 h1 h2 h3
  go_enter Tryd.func36, Tryd.ntmps36
  go_wp2_with (go_at_call 45; refine (addrFrom4 p4 p6 x0 x1 x2 x3 H0.out H1.out H2.out H3.out _ (NA.out _)).mono ?_; rintro e w1 ⟨rfl, hg⟩; obtain ⟨hc, hf⟩ := hg.cells; have hg' := Lib.hid hg; clear hg)
  have hc := hg'.out.cells.1
  exact bodyPost_ret (v := .tuple #[.agg #[.int .u64 0, .int .u64 (lo4 x0 x1 x2 x3), .pointer (zp p4 p6 (some false))], .bool true]) (by simp [results, Tryd.results36, go_sem, hc]) rfl
    ⟨rfl, (((((Gr.refl w).alloc _).trans hg'.out).setCell (by simp) _).setCell (by simp) _).setCell (by simp) _⟩

set_option maxHeartbeats 4000000 in
set_option maxRecDepth 100000 in
theorem fromSlice16 (p4 p6 : Addr) (b off c : Nat) (x0 x1 x2 x3 x4 x5 x6 x7 x8 x9 x10 x11 x12 x13 x14 x15 : Int) (h0 : Byt x0) (h1 : Byt x1) (h2 : Byt x2) (h3 : Byt x3) (h4 : Byt x4) (h5 : Byt x5) (h6 : Byt x6) (h7 : Byt x7) (h8 : Byt x8) (h9 : Byt x9) (h10 : Byt x10) (h11 : Byt x11) (h12 : Byt x12) (h13 : Byt x13) (h14 : Byt x14) (h15 : Byt x15) (w : World) (N : Net p4 p6 w) (hb : b < w.heap.size)
    (c0 : w.cell? ⟨b, off, none⟩ = some (.int .u8 x0)) (c1 : w.cell? ⟨b, off + 1, none⟩ = some (.int .u8 x1)) (c2 : w.cell? ⟨b, off + 2, none⟩ = some (.int .u8 x2)) (c3 : w.cell? ⟨b, off + 3, none⟩ = some (.int .u8 x3)) (c4 : w.cell? ⟨b, off + 4, none⟩ = some (.int .u8 x4)) (c5 : w.cell? ⟨b, off + 5, none⟩ = some (.int .u8 x5)) (c6 : w.cell? ⟨b, off + 6, none⟩ = some (.int .u8 x6)) (c7 : w.cell? ⟨b, off + 7, none⟩ = some (.int .u8 x7)) (c8 : w.cell? ⟨b, off + 8, none⟩ = some (.int .u8 x8)) (c9 : w.cell? ⟨b, off + 9, none⟩ = some (.int .u8 x9)) (c10 : w.cell? ⟨b, off + 10, none⟩ = some (.int .u8 x10)) (c11 : w.cell? ⟨b, off + 11, none⟩ = some (.int .u8 x11)) (c12 : w.cell? ⟨b, off + 12, none⟩ = some (.int .u8 x12)) (c13 : w.cell? ⟨b, off + 13, none⟩ = some (.int .u8 x13)) (c14 : w.cell? ⟨b, off + 14, none⟩ = some (.int .u8 x14)) (c15 : w.cell? ⟨b, off + 15, none⟩ = some (.int .u8 x15)) :
    Calls Tryd.prog 36 #[.slice (some ⟨b, off, none⟩) 16 c] w fun e w' => e = .returned (.tuple #[.agg #[.int .u64 (be8 x0 x1 x2 x3 x4 x5 x6 x7), .int .u64 (be8 x8 x9 x10 x11 x12 x13 x14 x15), .pointer (zp p4 p6 (some true))], .bool true]) ∧ Gr w w' := by
  have NA := Lib.hid (fun o => N.alloc o)
  have S0 : 0 < w.heap.size := by have := N.sz; omega
  clear N
  have ka : ∀ W : World, (Instr.arrayAt 84 (.slice (some ⟨b, off, none⟩) 16 c)).run Tryd.prog W = .ok (.pointer (some ⟨b, off, none⟩)) W := fun W => run_arrayAt W 84 5 16 _ 16 c Tryd.underlying84 (Nat.le_refl _)
  have H0 := Lib.hid h0; have H1 := Lib.hid h1; have H2 := Lib.hid h2; have H3 := Lib.hid h3; have H4 := Lib.hid h4; have H5 := Lib.hid h5; have H6 := Lib.hid h6; have H7 := Lib.hid h7; have H8 := Lib.hid h8; have H9 := Lib.hid h9; have H10 := Lib.hid h10; have H11 := Lib.hid h11; have H12 := Lib.hid h12; have H13 := Lib.hid h13; have H14 := Lib.hid h14; have H15 := Lib.hid h15
  clear h0 h1 h2 h3 h4 h5 h6 h7 h8 h9 h10 h11 h12 h13 h14 h15
  go_enter Tryd.func36, Tryd.ntmps36
  go_wp2_with (go_at_call 46; refine (addrFrom16 p4 p6 x0 x1 x2 x3 x4 x5 x6 x7 x8 x9 x10 x11 x12 x13 x14 x15 H0.out H1.out H2.out H3.out H4.out H5.out H6.out H7.out H8.out H9.out H10.out H11.out H12.out H13.out H14.out H15.out _ (NA.out _)).mono ?_; rintro e w1 ⟨rfl, hg⟩; obtain ⟨hc, hf⟩ := hg.cells; have hg' := Lib.hid hg; clear hg)
  have hc := hg'.out.cells.1
  exact bodyPost_ret (v := .tuple #[.agg #[.int .u64 (be8 x0 x1 x2 x3 x4 x5 x6 x7), .int .u64 (be8 x8 x9 x10 x11 x12 x13 x14 x15), .pointer (zp p4 p6 (some true))], .bool true]) (by simp [results, Tryd.results36, go_sem, hc]) rfl
    ⟨rfl, (((((Gr.refl w).alloc _).trans hg'.out).setCell (by simp) _).setCell (by simp) _).setCell (by simp) _⟩

set_option maxHeartbeats 4000000 in
set_option maxRecDepth 100000 in
theorem fromSliceNo (a : Option Addr) (n c : Nat) (h4 : n ≠ 4) (h16 : n ≠ 16) (w : World) :
    Calls Tryd.prog 36 #[.slice a n c] w fun e w' => e = .returned (.tuple #[.agg #[.int .u64 0, .int .u64 0, .pointer none], .bool false]) ∧ Gr w w' := by
  have k4 : ((n : Int) == 4) = false := by rw [beq_eq_false_iff_ne]; omega
  have k16 : ((n : Int) == 16) = false := by rw [beq_eq_false_iff_ne]; omega
  clear h4 h16
  go_enter Tryd.func36, Tryd.ntmps36
  go_wp2
  exact bodyPost_ret (v := .tuple #[.agg #[.int .u64 0, .int .u64 0, .pointer none], .bool false]) (by simp [results, Tryd.results36, go_sem]) rfl
    ⟨rfl, (Gr.refl w).alloc _⟩

theorem fromSlice (p4 p6 : Addr) (a : Option Addr) (zs : List Int) (c : Nat) (w : World) (N : Net p4 p6 w) (h : HoldsB w a zs) :
    Calls Tryd.prog 36 #[.slice a zs.length c] w fun e w' => e = .returned (.tuple #[.agg #[.int .u64 (hiOf zs), .int .u64 (loOf zs), .pointer (zp p4 p6 (famOf zs))], .bool (famOf zs).isSome]) ∧ Gr w w' := by
  obtain ⟨B, h2⟩ := h
  by_cases h4 : zs.length = 4
  · rcases h2 with rfl | ⟨b, off, rfl, hb, C⟩
    · simp at h4
    · match zs, h4 with
      | [x0, x1, x2, x3], _ => exact fromSlice4 p4 p6 b off c x0 x1 x2 x3 (B x0 (by simp)) (B x1 (by simp)) (B x2 (by simp)) (B x3 (by simp)) w N hb (C 0 (by simp)) (C 1 (by simp)) (C 2 (by simp)) (C 3 (by simp))
  by_cases h16 : zs.length = 16
  · rcases h2 with rfl | ⟨b, off, rfl, hb, C⟩
    · simp at h16
    · match zs, h16 with
      | [x0, x1, x2, x3, x4, x5, x6, x7, x8, x9, x10, x11, x12, x13, x14, x15], _ => exact fromSlice16 p4 p6 b off c x0 x1 x2 x3 x4 x5 x6 x7 x8 x9 x10 x11 x12 x13 x14 x15 (B x0 (by simp)) (B x1 (by simp)) (B x2 (by simp)) (B x3 (by simp)) (B x4 (by simp)) (B x5 (by simp)) (B x6 (by simp)) (B x7 (by simp)) (B x8 (by simp)) (B x9 (by simp)) (B x10 (by simp)) (B x11 (by simp)) (B x12 (by simp)) (B x13 (by simp)) (B x14 (by simp)) (B x15 (by simp)) w N hb (C 0 (by simp)) (C 1 (by simp)) (C 2 (by simp)) (C 3 (by simp)) (C 4 (by simp)) (C 5 (by simp)) (C 6 (by simp)) (C 7 (by simp)) (C 8 (by simp)) (C 9 (by simp)) (C 10 (by simp)) (C 11 (by simp)) (C 12 (by simp)) (C 13 (by simp)) (C 14 (by simp)) (C 15 (by simp))
  · have := fromSliceNo a zs.length c h4 h16 w
    unfold hiOf loOf famOf
    rw [if_neg h16, if_neg h16, if_neg h4, if_neg h4, if_neg h16]
    exact this
end Go.Proofs.YtbejikpopealdaaDoor
