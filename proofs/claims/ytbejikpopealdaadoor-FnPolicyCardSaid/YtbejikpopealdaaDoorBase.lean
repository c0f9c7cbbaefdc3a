/-
  Shared ground for all walks of this seat: the relation 'Gr' (a world that has only drawn and laid new blocks), with its closure laws; no program is run here.
-/
import Derived.Test.YtbejikpopealdaaDoorRows
import Derived.WalkKit
import Derived.WalkSpells
import Derived.WalkLawsBesides
import Derived.Lib.Hide
import Derived.Lib.EndianBits
import Derived.Deep.QuietTactic
import Derived.BigQuiet
import Derived.Sort.Grow
namespace Go.Proofs.YtbejikpopealdaaDoor
open Go.RowKit

/-- w' is w after some draws, with some blocks laid behind its heap (and those written at will). -/
structure Gr (w w' : World) : Prop where
  below : Below w.heap.size w w'
  drawn : w.drawn ≤ w'.drawn

theorem Gr.refl (w : World) : Gr w w := ⟨Below.refl _ _, Nat.le_refl _⟩
theorem Gr.size {w w' : World} (h : Gr w w') : w.heap.size ≤ w'.heap.size := h.below.size
theorem Gr.trans {a b c : World} (h : Gr a b) (k : Gr b c) : Gr a c := ⟨h.below.trans (k.below.mono h.size), Nat.le_trans h.drawn k.drawn⟩
theorem Gr.drew {a w : World} (h : Gr a w) : Gr a w.drew := ⟨h.below.drew, Nat.le_succ_of_le h.drawn⟩
theorem Gr.drewN {a w : World} (h : Gr a w) (n : Nat) : Gr a (w.drewN n) := ⟨⟨h.below.os, h.below.tape, h.below.output, h.below.size, h.below.block⟩, Nat.le_trans h.drawn (Nat.le_add_right _ _)⟩
theorem Gr.alloc {a w : World} (h : Gr a w) (o : Obj) : Gr a (w.alloc o) := ⟨h.below.alloc h.size o, h.drawn⟩
theorem Gr.setCell {a w : World} (h : Gr a w) {p : Addr} (hp : a.heap.size ≤ p.block) (u : Value) : Gr a (w.setCell p u) := ⟨h.below.setCell hp u, h.drawn⟩
theorem Gr.cells {w w' : World} (h : Gr w w') : (∀ b o, b < w.heap.size → w'.cell? ⟨b, o, none⟩ = w.cell? ⟨b, o, none⟩) ∧ (∀ b o, b < w.heap.size → w'.frozen? ⟨b, o, none⟩ = w.frozen? ⟨b, o, none⟩) :=
  ⟨fun b o hb => h.below.cell (p := ⟨b, o, none⟩) hb, fun b o hb => h.below.frozen (p := ⟨b, o, none⟩) hb⟩
theorem Gr.cell {w w' : World} (h : Gr w w') {p : Addr} {v : Value} (hp : p.block < w.heap.size) (hc : w.cell? p = some v) : w'.cell? p = some v := (h.below.cell hp).trans hc
theorem Gr.frozen {w w' : World} (h : Gr w w') {p : Addr} (hp : p.block < w.heap.size) (hc : w.frozen? p = false) : w'.frozen? p = false := (h.below.frozen hp).trans hc
theorem Gr.of_quiet {w w' : World} (h : ∃ n, w' = w.drewN n) : Gr w w' := by obtain ⟨n, rfl⟩ := h; exact (Gr.refl w).drewN n

/-- The equation that the sort's kit speaks. -/
theorem Gr.grow {w w' : World} (h : Gr w w') : ∃ n os, w' = Sort.grow (w.drewN n) os := by
  refine ⟨w'.drawn - w.drawn, w'.heap.extract w.heap.size w'.heap.size, ?_⟩
  have hh : w'.heap = w.heap ++ w'.heap.extract w.heap.size w'.heap.size := by
    apply Array.ext_getElem?
    intro i
    by_cases hi : i < w.heap.size
    · rw [h.below.block i hi, Array.getElem?_append_left hi]
    · rw [Array.getElem?_append_right (by omega), Array.getElem?_extract]
      have e : w.heap.size + (i - w.heap.size) = i := by omega
      by_cases h2 : i < w'.heap.size
      · rw [if_pos (by omega), e]
      · rw [if_neg (by omega), Array.getElem?_eq_none (by omega)]
  have h1 := h.below.os
  have h2 := h.below.tape
  have h3 := h.below.output
  have h4 := h.drawn
  cases w with
  | mk a b c d e =>
    cases w' with
    | mk a' b' c' d' e' =>
      simp only at h1 h2 h3 h4 hh
      simp only [Sort.grow, World.drewN]
      rw [← hh]
      subst h1 h2 h3
      congr 1
      omega

theorem Gr.of_grow {w : World} (n : Nat) (os : Array Obj) : Gr w (Sort.grow (w.drewN n) os) := by
  refine ⟨⟨rfl, rfl, rfl, ?_, fun k hk => ?_⟩, ?_⟩
  · show w.heap.size ≤ (w.heap ++ os).size
    rw [Array.size_append]; omega
  · show (w.heap ++ os)[k]? = _
    rw [Array.getElem?_append_left hk]
  · show w.drawn ≤ w.drawn + n
    omega

theorem ret_int {k : IntKind} {a b : Int} (h : a = b) : Ending.returned (.int k a) = .returned (.int k b) := by rw [h]
end Go.Proofs.YtbejikpopealdaaDoor
