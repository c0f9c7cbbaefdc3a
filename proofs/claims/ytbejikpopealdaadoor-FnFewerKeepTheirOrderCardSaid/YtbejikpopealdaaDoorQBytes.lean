/-
  Shared ground for all walks of this seat: the relation 'Gr' (a world that has only drawn and laid new blocks), with its closure laws; no program is run here.
-/
import Derived.Test.YtbejikpopealdaaDoorRows
import Derived.WalkKit
import Derived.WalkSpells
import Derived.WalkLawsBesides
import Derived.Lib.Hide
import Derived.Lib.EndianBits
import Derived.Deep.QuietTactic
import Derived.BigQuiet
import Derived.Sort.Grow
namespace Go.Proofs.YtbejikpopealdaaDoor
open Go.RowKit

/-- w' is w after some draws, with some blocks laid behind its heap (and those written at will). -/
structure Gr (w w' : World) : Prop where
  below : Below w.heap.size w w'
  drawn : w.drawn ≤ w'.drawn

theorem Gr.refl (w : World) : Gr w w := ⟨Below.refl _ _, Nat.le_refl _⟩
theorem Gr.size {w w' : World} (h : Gr w w') : w.heap.size ≤ w'.heap.size := h.below.size
theorem Gr.trans {a b c : World} (h : Gr a b) (k : Gr b c) : Gr a c := ⟨h.below.trans (k.below.mono h.size), Nat.le_trans h.drawn k.drawn⟩
theorem Gr.drew {a w : World} (h : Gr a w) : Gr a w.drew := ⟨h.below.drew, Nat.le_succ_of_le h.drawn⟩
theorem Gr.drewN {a w : World} (h : Gr a w) (n : Nat) : Gr a (w.drewN n) := ⟨⟨h.below.os, h.below.tape, h.below.output, h.below.size, h.below.block⟩, Nat.le_trans h.drawn (Nat.le_add_right _ _)⟩
theorem Gr.alloc {a w : World} (h : Gr a w) (o : Obj) : Gr a (w.alloc o) := ⟨h.below.alloc h.size o, h.drawn⟩
theorem Gr.setCell {a w : World} (h : Gr a w) {p : Addr} (hp : a.heap.size ≤ p.block) (u : Value) : Gr a (w.setCell p u) := ⟨h.below.setCell hp u, h.drawn⟩
theorem Gr.cells {w w' : World} (h : Gr w w') : (∀ b o, b < w.heap.size → w'.cell? ⟨b, o, none⟩ = w.cell? ⟨b, o, none⟩) ∧ (∀ b o, b < w.heap.size → w'.frozen? ⟨b, o, none⟩ = w.frozen? ⟨b, o, none⟩) :=
  ⟨fun b o hb => h.below.cell (p := ⟨b, o, none⟩) hb, fun b o hb => h.below.frozen (p := ⟨b, o, none⟩) hb⟩
theorem Gr.cell {w w' : World} (h : Gr w w') {p : Addr} {v : Value} (hp : p.block < w.heap.size) (hc : w.cell? p = some v) : w'.cell? p = some v := (h.below.cell hp).trans hc
theorem Gr.frozen {w w' : World} (h : Gr w w') {p : Addr} (hp : p.block < w.heap.size) (hc : w.frozen? p = false) : w'.frozen? p = false := (h.below.frozen hp).trans hc
theorem Gr.of_quiet {w w' : World} (h : ∃ n, w' = w.drewN n) : Gr w w' := by obtain ⟨n, rfl⟩ := h; exact (Gr.refl w).drewN n

/-- The equation that the sort's kit speaks. -/
theorem Gr.grow {w w' : World} (h : Gr w w') : ∃ n os, w' = Sort.grow (w.drewN n) os := by
  refine ⟨w'.drawn - w.drawn, w'.heap.extract w.heap.size w'.heap.size, ?_⟩
  have hh : w'.heap = w.heap ++ w'.heap.extract w.heap.size w'.heap.size := by
    apply Array.ext_getElem?
    intro i
    by_cases hi : i < w.heap.size
    · rw [h.below.block i hi, Array.getElem?_append_left hi]
    · rw [Array.getElem?_append_right (by omega), Array.getElem?_extract]
      have e : w.heap.size + (i - w.heap.size) = i := by omega
      by_cases h2 : i < w'.heap.size
      · rw [if_pos (by omega), e]
      · rw [if_neg (by omega), Array.getElem?_eq_none (by omega)]
  have h1 := h.below.os
  have h2 := h.below.tape
  have h3 := h.below.output
  have h4 := h.drawn
  cases w with
  | mk a b c d e =>
    cases w' with
    | mk a' b' c' d' e' =>
      simp only at h1 h2 h3 h4 hh
      simp only [Sort.grow, World.drewN]
      rw [← hh]
      subst h1 h2 h3
      congr 1
      omega

theorem Gr.of_grow {w : World} (n : Nat) (os : Array Obj) : Gr w (Sort.grow (w.drewN n) os) := by
  refine ⟨⟨rfl, rfl, rfl, ?_, fun k hk => ?_⟩, ?_⟩
  · show w.heap.size ≤ (w.heap ++ os).size
    rw [Array.size_append]; omega
  · show (w.heap ++ os)[k]? = _
    rw [Array.getElem?_append_left hk]
  · show w.drawn ≤ w.drawn + n
    omega

theorem ret_int {k : IntKind} {a b : Int} (h : a = b) : Ending.returned (.int k a) = .returned (.int k b) := by rw [h]
end Go.Proofs.YtbejikpopealdaaDoor
/-
  The contracts of internal/byteorder's BEUint64, BEPutUint32 and BEPutUint64, as the program calls them: on cells that are there and are not frozen.
-/
namespace Go.Proofs.YtbejikpopealdaaDoor
open Go.RowKit

/-- The number that eight bytes spell, the greatest first. -/
def be8 (x0 x1 x2 x3 x4 x5 x6 x7 : Int) : Int := x7 + x6 * 256 + x5 * 65536 + x4 * 16777216 + x3 * 4294967296 + x2 * 1099511627776 + x1 * 281474976710656 + x0 * 72057594037927936

/-- A byte. -/
def Byt (x : Int) : Prop := 0 ≤ x ∧ x < 256

set_option maxHeartbeats 4000000 in
set_option maxRecDepth 100000 in
theorem beUint64 (g o n c : Nat) (x0 x1 x2 x3 x4 x5 x6 x7 : Int) (w : World) (hn : 8 ≤ n)
    (h0 : Byt x0) (h1 : Byt x1) (h2 : Byt x2) (h3 : Byt x3) (h4 : Byt x4) (h5 : Byt x5) (h6 : Byt x6) (h7 : Byt x7)
    (c0 : w.cell? ⟨g, o, none⟩ = some (.int .u8 x0)) (c1 : w.cell? ⟨g, o + 1, none⟩ = some (.int .u8 x1)) (c2 : w.cell? ⟨g, o + 2, none⟩ = some (.int .u8 x2)) (c3 : w.cell? ⟨g, o + 3, none⟩ = some (.int .u8 x3)) (c4 : w.cell? ⟨g, o + 4, none⟩ = some (.int .u8 x4)) (c5 : w.cell? ⟨g, o + 5, none⟩ = some (.int .u8 x5)) (c6 : w.cell? ⟨g, o + 6, none⟩ = some (.int .u8 x6)) (c7 : w.cell? ⟨g, o + 7, none⟩ = some (.int .u8 x7)) :
    Calls Tryd.prog 64 #[.slice (some ⟨g, o, none⟩) n c] w fun e w' => e = .returned (.int .u64 (be8 x0 x1 x2 x3 x4 x5 x6 x7)) ∧ ∃ q, w' = w.drewN q := by
  obtain ⟨a0, b0⟩ := h0; obtain ⟨a1, b1⟩ := h1; obtain ⟨a2, b2⟩ := h2; obtain ⟨a3, b3⟩ := h3; obtain ⟨a4, b4⟩ := h4; obtain ⟨a5, b5⟩ := h5; obtain ⟨a6, b6⟩ := h6; obtain ⟨a7, b7⟩ := h7
  have q0 : 0 < n := by omega
  have q1 : (1 : Int) < (n : Int) := by omega
  have q2 : (2 : Int) < (n : Int) := by omega
  have q3 : (3 : Int) < (n : Int) := by omega
  have q4 : (4 : Int) < (n : Int) := by omega
  have q5 : (5 : Int) < (n : Int) := by omega
  have q6 : (6 : Int) < (n : Int) := by omega
  have q7 : (7 : Int) < (n : Int) := by omega
  go_enter Tryd.func64, Tryd.ntmps64
  go_wp2
  go_quiet (fail)
  go_wp2
  go_ret
  refine ⟨?_, ⟨_, rfl⟩⟩
  simp (disch := omega) only [u64_or8, u64_or16, u64_or24, u64_or32, u64_or40, u64_or48, u64_or56]
  rfl

set_option maxHeartbeats 4000000 in
set_option maxRecDepth 100000 in
theorem bePut64 (g o n c : Nat) (v : Int) (hv0 : 0 ≤ v) (hv1 : v < 18446744073709551616) (y0 y1 y2 y3 y4 y5 y6 y7 : Value) (w : World) (hn : 8 ≤ n)
    (c0 : w.cell? ⟨g, o, none⟩ = some y0) (c1 : w.cell? ⟨g, o + 1, none⟩ = some y1) (c2 : w.cell? ⟨g, o + 2, none⟩ = some y2) (c3 : w.cell? ⟨g, o + 3, none⟩ = some y3) (c4 : w.cell? ⟨g, o + 4, none⟩ = some y4) (c5 : w.cell? ⟨g, o + 5, none⟩ = some y5) (c6 : w.cell? ⟨g, o + 6, none⟩ = some y6) (c7 : w.cell? ⟨g, o + 7, none⟩ = some y7)
    (f0 : w.frozen? ⟨g, o, none⟩ = false) (f1 : w.frozen? ⟨g, o + 1, none⟩ = false) (f2 : w.frozen? ⟨g, o + 2, none⟩ = false) (f3 : w.frozen? ⟨g, o + 3, none⟩ = false) (f4 : w.frozen? ⟨g, o + 4, none⟩ = false) (f5 : w.frozen? ⟨g, o + 5, none⟩ = false) (f6 : w.frozen? ⟨g, o + 6, none⟩ = false) (f7 : w.frozen? ⟨g, o + 7, none⟩ = false) :
    Calls Tryd.prog 67 #[.slice (some ⟨g, o, none⟩) n c, .int .u64 v] w fun e w' => e = .returned (.tuple #[]) ∧ w' = ((((((((w.setCell ⟨g, o, none⟩ (.int .u8 (v / 72057594037927936))).setCell ⟨g, o + 1, none⟩ (.int .u8 (v / 281474976710656 % 256))).setCell ⟨g, o + 2, none⟩ (.int .u8 (v / 1099511627776 % 256))).setCell ⟨g, o + 3, none⟩ (.int .u8 (v / 4294967296 % 256))).setCell ⟨g, o + 4, none⟩ (.int .u8 (v / 16777216 % 256))).setCell ⟨g, o + 5, none⟩ (.int .u8 (v / 65536 % 256))).setCell ⟨g, o + 6, none⟩ (.int .u8 (v / 256 % 256))).setCell ⟨g, o + 7, none⟩ (.int .u8 (v % 256))) := by
  go_enter Tryd.func67, Tryd.ntmps67
  go_wp2
  go_end0
  exact ⟨rfl, rfl⟩

set_option maxHeartbeats 4000000 in
set_option maxRecDepth 100000 in
theorem bePut32 (g o n c : Nat) (v : Int) (hv0 : 0 ≤ v) (hv1 : v < 4294967296) (y0 y1 y2 y3 : Value) (w : World) (hn : 4 ≤ n)
    (c0 : w.cell? ⟨g, o, none⟩ = some y0) (c1 : w.cell? ⟨g, o + 1, none⟩ = some y1) (c2 : w.cell? ⟨g, o + 2, none⟩ = some y2) (c3 : w.cell? ⟨g, o + 3, none⟩ = some y3)
    (f0 : w.frozen? ⟨g, o, none⟩ = false) (f1 : w.frozen? ⟨g, o + 1, none⟩ = false) (f2 : w.frozen? ⟨g, o + 2, none⟩ = false) (f3 : w.frozen? ⟨g, o + 3, none⟩ = false) :
    Calls Tryd.prog 66 #[.slice (some ⟨g, o, none⟩) n c, .int .u32 v] w fun e w' => e = .returned (.tuple #[]) ∧ w' = ((((w.setCell ⟨g, o, none⟩ (.int .u8 (v / 16777216))).setCell ⟨g, o + 1, none⟩ (.int .u8 (v / 65536 % 256))).setCell ⟨g, o + 2, none⟩ (.int .u8 (v / 256 % 256))).setCell ⟨g, o + 3, none⟩ (.int .u8 (v % 256))) := by
  go_enter Tryd.func66, Tryd.ntmps66
  go_wp2
  go_end0
  exact ⟨rfl, rfl⟩
end Go.Proofs.YtbejikpopealdaaDoor
