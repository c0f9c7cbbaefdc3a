/-
  netip's Prefix.Contains at a prefix and an address of IPv6, walked.
-/
import Derived.Test.YtbejikpopealdaaDoorQNetJ
import Derived.Shelf.SlSortCmp.QuietGrown
namespace Go.Proofs.YtbejikpopealdaaDoor
open Go.RowKit Go.Sort

theorem mixedT : Tryd.prog.follows .mixedOrders = true := by kernel_rfl

/-- A contract that only grows the world, in a world of the class that 'go_quiet_grown' walks. -/
theorem grown_call {f : FuncId} {args : Array Value} {w : World} {n : Nat} {os : Array Obj} {v : Value} (h : Calls Tryd.prog f args (grow (w.drewN n) os) fun e w' => e = .returned v ∧ Gr (grow (w.drewN n) os) w') :
    Calls Tryd.prog f args (grow (w.drewN n) os) fun e w'' => e = .returned v ∧ ∃ p : GrownBy, w'' = grow (w.drewN p.n) p.os :=
  Calls.grown_of (h.mono fun _ _ ⟨he, hg⟩ => ⟨he, hg.grow⟩)

/-- Does the prefix hold the address, as Contains reckons it. -/
def contB (hi lo phi plo mh ml : Int) : Bool := bits .or .u64 (bits .and .u64 (bits .xor .u64 hi phi) mh) (bits .and .u64 (bits .xor .u64 lo plo) ml) == 0

set_option maxHeartbeats 4000000 in
set_option maxRecDepth 100000 in
theorem contains_any (p4 p6 : Addr) (phi plo hi lo mh ml n : Int) (h0 : 0 ≤ n) (h1 : n ≤ 128) (MK : ∀ W : World, Calls Tryd.prog 79 #[.int .i64 n] W fun e w' => e = .returned (.agg #[.int .u64 mh, .int .u64 ml]) ∧ Gr W w') (w : World) (N : Net p4 p6 w) :
    Calls Tryd.prog 57 #[.agg #[.int .u64 phi, .int .u64 plo, .pointer (zp p4 p6 (some true)), .int .u8 (n + 1)], .agg #[.int .u64 hi, .int .u64 lo, .pointer (zp p4 p6 (some true))]] w fun e w' => e = .returned (.bool (contB hi lo phi plo mh ml)) ∧ Gr w w' := by
  have I74 := Lib.hid (fun W => pfxValid phi plo (n + 1) (zp p4 p6 (some true)) W (by omega))
  have I75 := Lib.hid (fun W g => hasZone_any p4 p6 (some true) hi lo W (N.gr (w' := W) g))
  have I72 : Hid (∀ a b W, Gr w W → Calls Tryd.prog 72 #[.agg #[.int .u64 a, .int .u64 b, .pointer (zp p4 p6 (some true))]] W fun e w' => e = .returned (.int .i64 128) ∧ Gr W w') := fun a b W g => bitLen_any p4 p6 (some true) a b W (N.gr (w' := W) g)
  have I56 : Hid (∀ W, Gr w W → Calls Tryd.prog 56 #[.agg #[.int .u64 hi, .int .u64 lo, .pointer (zp p4 p6 (some true))]] W fun e w' => e = .returned (.bool false) ∧ Gr W w') := fun W g => is4_any p4 p6 (some true) hi lo W (N.gr (w' := W) g)
  have I76 := Lib.hid (fun W => pfxBits phi plo n (zp p4 p6 (some true)) W h0 h1)
  have MK' := Lib.hid MK
  have mixed := mixedT
  have zpp : Hid (zp p4 p6 (some true) = some p6) := rfl
  clear N MK
  go_enter Tryd.func57, Tryd.ntmps57
  go_wp2_with fail
  refine (I74.out _).mono ?_
  rintro e w1 ⟨rfl, hg⟩
  have hla1 : w.heap.size < w1.heap.size := by have := hg.size; (try simp at this); omega
  have hlt1 : w.heap.size + 1 < w1.heap.size := by have := hg.size; (try simp at this); omega
  obtain ⟨hc1, hf1⟩ := hg.cells
  have HG1 : Hid (Gr w w1) := (((Gr.refl w).alloc _).alloc _).trans hg
  clear hg
  go_wp2_with fail
  refine (I75.out _ HG1.out).mono ?_
  rintro e w2 ⟨rfl, hg⟩
  have hla2 : w.heap.size < w2.heap.size := by have := hg.size; (try simp at this); omega
  have hlt2 : w.heap.size + 1 < w2.heap.size := by have := hg.size; (try simp at this); omega
  obtain ⟨hc2, hf2⟩ := hg.cells
  have HG2 : Hid (Gr w w2) := HG1.out.trans hg
  clear hg
  have a0 : w2.cell? ⟨w.heap.size, 0, none⟩ = some (.int .u64 phi) := by rw [hc2 _ _ hla1, hc1 _ _ (by simp; omega)]; simp
  have a1 : w2.cell? ⟨w.heap.size, 1, none⟩ = some (.int .u64 plo) := by rw [hc2 _ _ hla1, hc1 _ _ (by simp; omega)]; simp
  have a2 : w2.cell? ⟨w.heap.size, 2, none⟩ = some (.pointer (zp p4 p6 (some true))) := by rw [hc2 _ _ hla1, hc1 _ _ (by simp; omega)]; simp
  have a3 : w2.cell? ⟨w.heap.size, 3, none⟩ = some (.int .u8 (n + 1)) := by rw [hc2 _ _ hla1, hc1 _ _ (by simp; omega)]; simp
  have b0 : w2.cell? ⟨w.heap.size + 1, 0, none⟩ = some (.int .u64 hi) := by rw [hc2 _ _ hlt1, hc1 _ _ (by simp)]; simp
  have b1 : w2.cell? ⟨w.heap.size + 1, 1, none⟩ = some (.int .u64 lo) := by rw [hc2 _ _ hlt1, hc1 _ _ (by simp)]; simp
  have b2 : w2.cell? ⟨w.heap.size + 1, 2, none⟩ = some (.pointer (zp p4 p6 (some true))) := by rw [hc2 _ _ hlt1, hc1 _ _ (by simp)]; simp
  clear hc1 hf1 hc2 hf2
  have ga0 := fun n os => cell_grown (n := n) (os := os) (a := ⟨w.heap.size, 0, none⟩) hla2 a0
  have ga1 := fun n os => cell_grown (n := n) (os := os) (a := ⟨w.heap.size, 1, none⟩) hla2 a1
  have ga2 := fun n os => cell_grown (n := n) (os := os) (a := ⟨w.heap.size, 2, none⟩) hla2 a2
  have gb0 := fun n os => cell_grown (n := n) (os := os) (a := ⟨w.heap.size + 1, 0, none⟩) hlt2 b0
  have gb1 := fun n os => cell_grown (n := n) (os := os) (a := ⟨w.heap.size + 1, 1, none⟩) hlt2 b1
  have gb2 := fun n os => cell_grown (n := n) (os := os) (a := ⟨w.heap.size + 1, 2, none⟩) hlt2 b2
  go_wp2_with fail
  go_quiet_grown (first | (go_at_call 72; refine grown_call (I72.out _ _ _ (HG2.out.trans (Gr.of_grow _ _)))))
  obtain ⟨w3, hw3⟩ : ∃ w3, w3 = grow (w2.drewN nq) osq := ⟨_, rfl⟩
  have HG23 : Hid (Gr w2 w3) := by rw [hw3]; exact Gr.of_grow _ _
  change Exit.then _ _ _ _ (grow (w2.drewN nq) osq)
  rw [← hw3]
  clear hw3
  have hla3 : w.heap.size < w3.heap.size := Nat.lt_of_lt_of_le hla2 HG23.out.size
  have hlt3 : w.heap.size + 1 < w3.heap.size := Nat.lt_of_lt_of_le hlt2 HG23.out.size
  replace a0 := HG23.out.cell (p := ⟨w.heap.size, 0, none⟩) hla2 a0
  replace a1 := HG23.out.cell (p := ⟨w.heap.size, 1, none⟩) hla2 a1
  replace a2 := HG23.out.cell (p := ⟨w.heap.size, 2, none⟩) hla2 a2
  replace a3 := HG23.out.cell (p := ⟨w.heap.size, 3, none⟩) hla2 a3
  replace b0 := HG23.out.cell (p := ⟨w.heap.size + 1, 0, none⟩) hlt2 b0
  replace b1 := HG23.out.cell (p := ⟨w.heap.size + 1, 1, none⟩) hlt2 b1
  replace b2 := HG23.out.cell (p := ⟨w.heap.size + 1, 2, none⟩) hlt2 b2
  have HG3 : Hid (Gr w w3) := HG2.out.trans HG23.out
  go_wp2_with fail
  refine (I56.out _ HG3.out).mono ?_
  rintro e w4 ⟨rfl, hg⟩
  have hla4 : w.heap.size < w4.heap.size := Nat.lt_of_lt_of_le hla3 hg.size
  have hlt4 : w.heap.size + 1 < w4.heap.size := Nat.lt_of_lt_of_le hlt3 hg.size
  replace a0 := hg.cell (p := ⟨w.heap.size, 0, none⟩) hla3 a0
  replace a1 := hg.cell (p := ⟨w.heap.size, 1, none⟩) hla3 a1
  replace a2 := hg.cell (p := ⟨w.heap.size, 2, none⟩) hla3 a2
  replace a3 := hg.cell (p := ⟨w.heap.size, 3, none⟩) hla3 a3
  replace b0 := hg.cell (p := ⟨w.heap.size + 1, 0, none⟩) hlt3 b0
  replace b1 := hg.cell (p := ⟨w.heap.size + 1, 1, none⟩) hlt3 b1
  replace b2 := hg.cell (p := ⟨w.heap.size + 1, 2, none⟩) hlt3 b2
  have HG4 : Hid (Gr w w4) := HG3.out.trans hg
  clear hg
  have ga0 := fun n os => cell_grown (n := n) (os := os) (a := ⟨w.heap.size, 0, none⟩) hla4 a0
  have ga1 := fun n os => cell_grown (n := n) (os := os) (a := ⟨w.heap.size, 1, none⟩) hla4 a1
  have ga2 := fun n os => cell_grown (n := n) (os := os) (a := ⟨w.heap.size, 2, none⟩) hla4 a2
  have ga3 := fun n os => cell_grown (n := n) (os := os) (a := ⟨w.heap.size, 3, none⟩) hla4 a3
  have gb0 := fun n os => cell_grown (n := n) (os := os) (a := ⟨w.heap.size + 1, 0, none⟩) hlt4 b0
  have gb1 := fun n os => cell_grown (n := n) (os := os) (a := ⟨w.heap.size + 1, 1, none⟩) hlt4 b1
  have gb2 := fun n os => cell_grown (n := n) (os := os) (a := ⟨w.heap.size + 1, 2, none⟩) hlt4 b2
  go_wp2_with fail
  go_quiet_grown (first
    | (go_at_call 77; refine grown_call (xor128 _ _ _ _ _))
    | (go_at_call 76; refine grown_call (I76.out _))
    | (go_at_call 79; refine grown_call (MK'.out _))
    | (go_at_call 78; refine grown_call (and128 _ _ _ _ _))
    | (go_at_call 80; refine grown_call (isZero128 _ _ _)))
  go_wp2
  go_ret
  exact ⟨rfl, HG4.out.trans (Gr.of_grow _ _)⟩
end Go.Proofs.YtbejikpopealdaaDoor
