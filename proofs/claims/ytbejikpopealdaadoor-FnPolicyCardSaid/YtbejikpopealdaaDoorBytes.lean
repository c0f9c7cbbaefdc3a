/-
  The contracts of internal/byteorder's BEUint64, BEPutUint32 and BEPutUint64, as the program calls them: on cells that are there and are not frozen.
-/
import Derived.Test.YtbejikpopealdaaDoorBase
namespace Go.Proofs.YtbejikpopealdaaDoor
open Go.RowKit

/-- The number that eight bytes spell, the greatest first. -/
def be8 (x0 x1 x2 x3 x4 x5 x6 x7 : Int) : Int := x7 + x6 * 256 + x5 * 65536 + x4 * 16777216 + x3 * 4294967296 + x2 * 1099511627776 + x1 * 281474976710656 + x0 * 72057594037927936

/-- A byte. -/
def Byt (x : Int) : Prop := 0 ≤ x ∧ x < 256

set_option maxHeartbeats 4000000 in
set_option maxRecDepth 100000 in
theorem beUint64 (g o n c : Nat) (x0 x1 x2 x3 x4 x5 x6 x7 : Int) (w : World) (hn : 8 ≤ n)
    (h0 : Byt x0) (h1 : Byt x1) (h2 : Byt x2) (h3 : Byt x3) (h4 : Byt x4) (h5 : Byt x5) (h6 : Byt x6) (h7 : Byt x7)
    (c0 : w.cell? ⟨g, o, none⟩ = some (.int .u8 x0)) (c1 : w.cell? ⟨g, o + 1, none⟩ = some (.int .u8 x1)) (c2 : w.cell? ⟨g, o + 2, none⟩ = some (.int .u8 x2)) (c3 : w.cell? ⟨g, o + 3, none⟩ = some (.int .u8 x3)) (c4 : w.cell? ⟨g, o + 4, none⟩ = some (.int .u8 x4)) (c5 : w.cell? ⟨g, o + 5, none⟩ = some (.int .u8 x5)) (c6 : w.cell? ⟨g, o + 6, none⟩ = some (.int .u8 x6)) (c7 : w.cell? ⟨g, o + 7, none⟩ = some (.int .u8 x7)) :
    Calls Tryd.prog 64 #[.slice (some ⟨g, o, none⟩) n c] w fun e w' => e = .returned (.int .u64 (be8 x0 x1 x2 x3 x4 x5 x6 x7)) ∧ ∃ q, w' = w.drewN q := by
  obtain ⟨a0, b0⟩ := h0; obtain ⟨a1, b1⟩ := h1; obtain ⟨a2, b2⟩ := h2; obtain ⟨a3, b3⟩ := h3; obtain ⟨a4, b4⟩ := h4; obtain ⟨a5, b5⟩ := h5; obtain ⟨a6, b6⟩ := h6; obtain ⟨a7, b7⟩ := h7
  have q0 : 0 < n := by omega
  have q1 : (1 : Int) < (n : Int) := by omega
  have q2 : (2 : Int) < (n : Int) := by omega
  have q3 : (3 : Int) < (n : Int) := by omega
  have q4 : (4 : Int) < (n : Int) := by omega
  have q5 : (5 : Int) < (n : Int) := by omega
  have q6 : (6 : Int) < (n : Int) := by omega
  have q7 : (7 : Int) < (n : Int) := by omega
  go_enter Tryd.func64, Tryd.ntmps64
  go_wp2
  go_quiet (fail)
  go_wp2
  go_ret
  refine ⟨?_, ⟨_, rfl⟩⟩
  simp (disch := omega) only [u64_or8, u64_or16, u64_or24, u64_or32, u64_or40, u64_or48, u64_or56]
  rfl

set_option maxHeartbeats 4000000 in
set_option maxRecDepth 100000 in
theorem bePut64 (g o n c : Nat) (v : Int) (hv0 : 0 ≤ v) (hv1 : v < 18446744073709551616) (y0 y1 y2 y3 y4 y5 y6 y7 : Value) (w : World) (hn : 8 ≤ n)
    (c0 : w.cell? ⟨g, o, none⟩ = some y0) (c1 : w.cell? ⟨g, o + 1, none⟩ = some y1) (c2 : w.cell? ⟨g, o + 2, none⟩ = some y2) (c3 : w.cell? ⟨g, o + 3, none⟩ = some y3) (c4 : w.cell? ⟨g, o + 4, none⟩ = some y4) (c5 : w.cell? ⟨g, o + 5, none⟩ = some y5) (c6 : w.cell? ⟨g, o + 6, none⟩ = some y6) (c7 : w.cell? ⟨g, o + 7, none⟩ = some y7)
    (f0 : w.frozen? ⟨g, o, none⟩ = false) (f1 : w.frozen? ⟨g, o + 1, none⟩ = false) (f2 : w.frozen? ⟨g, o + 2, none⟩ = false) (f3 : w.frozen? ⟨g, o + 3, none⟩ = false) (f4 : w.frozen? ⟨g, o + 4, none⟩ = false) (f5 : w.frozen? ⟨g, o + 5, none⟩ = false) (f6 : w.frozen? ⟨g, o + 6, none⟩ = false) (f7 : w.frozen? ⟨g, o + 7, none⟩ = false) :
    Calls Tryd.prog 67 #[.slice (some ⟨g, o, none⟩) n c, .int .u64 v] w fun e w' => e = .returned (.tuple #[]) ∧ w' = ((((((((w.setCell ⟨g, o, none⟩ (.int .u8 (v / 72057594037927936))).setCell ⟨g, o + 1, none⟩ (.int .u8 (v / 281474976710656 % 256))).setCell ⟨g, o + 2, none⟩ (.int .u8 (v / 1099511627776 % 256))).setCell ⟨g, o + 3, none⟩ (.int .u8 (v / 4294967296 % 256))).setCell ⟨g, o + 4, none⟩ (.int .u8 (v / 16777216 % 256))).setCell ⟨g, o + 5, none⟩ (.int .u8 (v / 65536 % 256))).setCell ⟨g, o + 6, none⟩ (.int .u8 (v / 256 % 256))).setCell ⟨g, o + 7, none⟩ (.int .u8 (v % 256))) := by
  go_enter Tryd.func67, Tryd.ntmps67
  go_wp2
  go_end0
  exact ⟨rfl, rfl⟩

set_option maxHeartbeats 4000000 in
set_option maxRecDepth 100000 in
theorem bePut32 (g o n c : Nat) (v : Int) (hv0 : 0 ≤ v) (hv1 : v < 4294967296) (y0 y1 y2 y3 : Value) (w : World) (hn : 4 ≤ n)
    (c0 : w.cell? ⟨g, o, none⟩ = some y0) (c1 : w.cell? ⟨g, o + 1, none⟩ = some y1) (c2 : w.cell? ⟨g, o + 2, none⟩ = some y2) (c3 : w.cell? ⟨g, o + 3, none⟩ = some y3)
    (f0 : w.frozen? ⟨g, o, none⟩ = false) (f1 : w.frozen? ⟨g, o + 1, none⟩ = false) (f2 : w.frozen? ⟨g, o + 2, none⟩ = false) (f3 : w.frozen? ⟨g, o + 3, none⟩ = false) :
    Calls Tryd.prog 66 #[.slice (some ⟨g, o, none⟩) n c, .int .u32 v] w fun e w' => e = .returned (.tuple #[]) ∧ w' = ((((w.setCell ⟨g, o, none⟩ (.int .u8 (v / 16777216))).setCell ⟨g, o + 1, none⟩ (.int .u8 (v / 65536 % 256))).setCell ⟨g, o + 2, none⟩ (.int .u8 (v / 256 % 256))).setCell ⟨g, o + 3, none⟩ (.int .u8 (v % 256))) := by
  go_enter Tryd.func66, Tryd.ntmps66
  go_wp2
  go_end0
  exact ⟨rfl, rfl⟩
end Go.Proofs.YtbejikpopealdaaDoor
