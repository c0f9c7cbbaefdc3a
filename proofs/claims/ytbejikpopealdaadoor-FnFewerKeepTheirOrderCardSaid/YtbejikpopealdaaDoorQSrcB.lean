/-
  sortByRFC6724withSrcs of the package, walked.
-/
import Derived.Test.YtbejikpopealdaaDoorQSrcA
import Derived.Deep.DeepCutAuto
import Derived.Deep.RegionHeld3
namespace Go.Proofs.YtbejikpopealdaaDoor
open Go.RowKit Go.Sort

theorem info97 : (Tryd.prog.info? 97).map (fun i => (i.zero, i.size, i.bytes)) = some (some (.agg zeroV.toArray), 11, 80) := by kernel_rfl

/-- The addresses' row before and behind. -/
theorem rowL_cell {w : World} {B g n cl : Nat} {I : List Dst} {xs : List Nat} (h : w.ownsRow B 74 2 (.slice (some ⟨g, 0, none⟩) n cl) n (rowL I xs)) (i c x : Nat) (hx : xs[i]? = some x) (hc : c < 2) : w.cell? ⟨g, i * 2 + c, none⟩ = some ((cells2 I x)[c]!) := by
  have := h.cells (g := g) rfl (i * 2 + c) ((cells2 I x)[c]!) (by
    unfold rowL
    rw [flat_at (cells2_len I) xs i c x hx hc]
    rw [getElem!_pos (cells2 I x) c (by rw [cells2_len]; exact hc)]
    exact List.getElem?_eq_getElem _)
  rw [Addr.add_lit, Nat.zero_add] at this
  exact this
theorem rowS_cell {w : World} {B g n cl : Nat} {p4 p6 : Addr} {I : List Dst} {xs : List Nat} (h : w.ownsRow B 55 3 (.slice (some ⟨g, 0, none⟩) n cl) n (rowS p4 p6 I xs)) (i c x : Nat) (hx : xs[i]? = some x) (hc : c < 3) : w.cell? ⟨g, i * 3 + c, none⟩ = some ((cells3 p4 p6 I x)[c]!) := by
  have := h.cells (g := g) rfl (i * 3 + c) ((cells3 p4 p6 I x)[c]!) (by
    unfold rowS
    rw [flat_at (cells3_len p4 p6 I) xs i c x hx hc]
    rw [getElem!_pos (cells3 p4 p6 I x) c (by rw [cells3_len]; exact hc)]
    exact List.getElem?_eq_getElem _)
  rw [Addr.add_lit, Nat.zero_add] at this
  exact this

theorem round_facts {w : World} {B g n cl gs cs : Nat} {p4 p6 : Addr} {I : List Dst} (OL : w.ownsRow B 74 2 (.slice (some ⟨g, 0, none⟩) n cl) n (rowL I (List.range n))) (OS : w.ownsRow B 55 3 (.slice (some ⟨gs, 0, none⟩) n cs) n (rowS p4 p6 I (List.range n)))
    {i : Nat} (hi : i < n) {a : Option Addr} {c : Nat} {z y : List Int} (hr : I[i]? = some (a, c, z, y)) :
    w.cell? ⟨g, i * 2, none⟩ = some (.slice a z.length c) ∧ w.cell? ⟨g, i * 2 + 1, none⟩ = some (znS i) ∧ w.cell? ⟨gs, i * 3, none⟩ = some (.int .u64 (hiOf y)) ∧ w.cell? ⟨gs, i * 3 + 1, none⟩ = some (.int .u64 (loOf y)) ∧ w.cell? ⟨gs, i * 3 + 2, none⟩ = some (.pointer (zp p4 p6 (famOf y))) := by
  have hx : (List.range n)[i]? = some i := by rw [List.getElem?_range hi]
  have l0 := rowL_cell OL i 0 i hx (by decide)
  have l1 := rowL_cell OL i 1 i hx (by decide)
  have s0 := rowS_cell OS i 0 i hx (by decide)
  have s1 := rowS_cell OS i 1 i hx (by decide)
  have s2 := rowS_cell OS i 2 i hx (by decide)
  unfold cells2 at l0 l1
  unfold cells3 at s0 s1 s2
  rw [hr] at l0 l1 s0 s1 s2
  exact ⟨l0, l1, s0, s1, s2⟩
theorem encS_at (p4 p6 : Addr) {I : List Dst} {i : Nat} {a : Option Addr} {c : Nat} {z y : List Int} (hr : I[i]? = some (a, c, z, y)) (hz : isB z = true) :
    encS p4 p6 znS I i = [.slice a z.length c, znS i, .int .u8 (sc0 z), .int .u8 (pr0 z), .int .u8 (lb0 z), .int .u64 (hiOf y), .int .u64 (loOf y), .pointer (zp p4 p6 (famOf y)), .int .u8 (sc0 y), .int .u8 (pr0 y), .int .u8 (lb0 y)] := by
  have e1 : sc0 z = scB z := if_pos hz
  have e2 : pr0 z = prB z := if_pos hz
  have e3 : lb0 z = lbB z := if_pos hz
  unfold encS
  rw [hr, e1, e2, e3]
  rfl
theorem rest_cells {E : Nat → List Value} {W : World} {blk n i : Nat} (hi : i < n) (h : Rest E 11 W blk (fillA n i) i) (j : Nat) (hj : j < 11) :
    W.cell? ⟨blk, i * 11 + j, none⟩ = some (cellOr W blk (i * 11 + j)) ∧ W.frozen? ⟨blk, i * 11 + j, none⟩ = false := by
  obtain ⟨_, ⟨v, h2⟩, h3⟩ := h (i * 11 + j) (by rw [fillA_size]; omega)
  exact ⟨cellOr_of h2, h3⟩
theorem rg_step {w W W' : World} {p4 p6 : Addr} {I : List Dst} {g gs bx i n : Nat} {a : Option Addr} {zn c : Nat} {sn : ByteArray} {zh zo yh yo : Int} {zz yz : Option Addr} (hi : i < n)
    (h : Gr w W ∧ w.heap.size < W.heap.size ∧ bx < W.heap.size ∧ Rest (encS p4 p6 znS I) 11 W w.heap.size (fillA n i) i ∧ W.cell? ⟨g, i * 2, none⟩ = some (.slice a zn c) ∧ W.cell? ⟨g, i * 2 + 1, none⟩ = some (.string sn) ∧ W.cell? ⟨bx, 0, none⟩ = some (.int .u64 zh) ∧ W.cell? ⟨bx, 1, none⟩ = some (.int .u64 zo) ∧ W.cell? ⟨bx, 2, none⟩ = some (.pointer zz) ∧ W.cell? ⟨gs, i * 3, none⟩ = some (.int .u64 yh) ∧ W.cell? ⟨gs, i * 3 + 1, none⟩ = some (.int .u64 yo) ∧ W.cell? ⟨gs, i * 3 + 2, none⟩ = some (.pointer yz)) (k : Gr W W') : Gr w W' ∧ w.heap.size < W'.heap.size ∧ bx < W'.heap.size ∧ Rest (encS p4 p6 znS I) 11 W' w.heap.size (fillA n i) i ∧ W'.cell? ⟨g, i * 2, none⟩ = some (.slice a zn c) ∧ W'.cell? ⟨g, i * 2 + 1, none⟩ = some (.string sn) ∧ W'.cell? ⟨bx, 0, none⟩ = some (.int .u64 zh) ∧ W'.cell? ⟨bx, 1, none⟩ = some (.int .u64 zo) ∧ W'.cell? ⟨bx, 2, none⟩ = some (.pointer zz) ∧ W'.cell? ⟨gs, i * 3, none⟩ = some (.int .u64 yh) ∧ W'.cell? ⟨gs, i * 3 + 1, none⟩ = some (.int .u64 yo) ∧ W'.cell? ⟨gs, i * 3 + 2, none⟩ = some (.pointer yz) ∧ W'.cell? ⟨w.heap.size, i * 11, none⟩ = some (cellOr W' w.heap.size (i * 11)) ∧ W'.cell? ⟨w.heap.size, i * 11 + 1, none⟩ = some (cellOr W' w.heap.size (i * 11 + 1)) ∧ W'.cell? ⟨w.heap.size, i * 11 + 2, none⟩ = some (cellOr W' w.heap.size (i * 11 + 2)) ∧ W'.cell? ⟨w.heap.size, i * 11 + 3, none⟩ = some (cellOr W' w.heap.size (i * 11 + 3)) ∧ W'.cell? ⟨w.heap.size, i * 11 + 4, none⟩ = some (cellOr W' w.heap.size (i * 11 + 4)) ∧ W'.cell? ⟨w.heap.size, i * 11 + 5, none⟩ = some (cellOr W' w.heap.size (i * 11 + 5)) ∧ W'.cell? ⟨w.heap.size, i * 11 + 6, none⟩ = some (cellOr W' w.heap.size (i * 11 + 6)) ∧ W'.cell? ⟨w.heap.size, i * 11 + 7, none⟩ = some (cellOr W' w.heap.size (i * 11 + 7)) ∧ W'.cell? ⟨w.heap.size, i * 11 + 8, none⟩ = some (cellOr W' w.heap.size (i * 11 + 8)) ∧ W'.cell? ⟨w.heap.size, i * 11 + 9, none⟩ = some (cellOr W' w.heap.size (i * 11 + 9)) ∧ W'.cell? ⟨w.heap.size, i * 11 + 10, none⟩ = some (cellOr W' w.heap.size (i * 11 + 10)) ∧ W'.frozen? ⟨w.heap.size, i * 11, none⟩ = false ∧ W'.frozen? ⟨w.heap.size, i * 11 + 1, none⟩ = false ∧ W'.frozen? ⟨w.heap.size, i * 11 + 2, none⟩ = false ∧ W'.frozen? ⟨w.heap.size, i * 11 + 3, none⟩ = false ∧ W'.frozen? ⟨w.heap.size, i * 11 + 4, none⟩ = false ∧ W'.frozen? ⟨w.heap.size, i * 11 + 5, none⟩ = false ∧ W'.frozen? ⟨w.heap.size, i * 11 + 6, none⟩ = false ∧ W'.frozen? ⟨w.heap.size, i * 11 + 7, none⟩ = false ∧ W'.frozen? ⟨w.heap.size, i * 11 + 8, none⟩ = false ∧ W'.frozen? ⟨w.heap.size, i * 11 + 9, none⟩ = false ∧ W'.frozen? ⟨w.heap.size, i * 11 + 10, none⟩ = false := by
  obtain ⟨h0, hb, hx, h1, h2, h3, h4, h5, h6, h7, h8, h9⟩ := h
  have gl : g < W.heap.size := World.block_lt_of_cell? _ _ h2
  have sl : gs < W.heap.size := World.block_lt_of_cell? _ _ h7
  have R := h1.gr k hb
  have C := rest_cells hi R
  exact ⟨h0.trans k, Nat.lt_of_lt_of_le hb k.size, Nat.lt_of_lt_of_le hx k.size, R, k.cell gl h2, k.cell gl h3, k.cell hx h4, k.cell hx h5, k.cell hx h6, k.cell sl h7, k.cell sl h8, k.cell sl h9,
    (C 0 (by decide)).1, (C 1 (by decide)).1, (C 2 (by decide)).1, (C 3 (by decide)).1, (C 4 (by decide)).1, (C 5 (by decide)).1, (C 6 (by decide)).1, (C 7 (by decide)).1, (C 8 (by decide)).1, (C 9 (by decide)).1, (C 10 (by decide)).1,
    (C 0 (by decide)).2, (C 1 (by decide)).2, (C 2 (by decide)).2, (C 3 (by decide)).2, (C 4 (by decide)).2, (C 5 (by decide)).2, (C 6 (by decide)).2, (C 7 (by decide)).2, (C 8 (by decide)).2, (C 9 (by decide)).2, (C 10 (by decide)).2⟩
theorem rest_store {E : Nat → List Value} {W : World} {blk n i : Nat} (h : Rest E 11 W blk (fillA n i) i) (vs : List Value) (hv : vs.length = 11) (hi : i < n) : Rest E 11 (W.setCells blk (i * 11) vs) blk (fillA n i) i := by
  intro t ht
  have ht' : t < n * 11 := by rw [fillA_size] at ht; exact ht
  obtain ⟨h1, ⟨v, h2⟩, h3⟩ := h t ht
  have F : Holds id W blk 0 ((Array.range (n * 11)).map fun t => (W.cell? ⟨blk, t, none⟩).getD undef) := by
    intro s hs
    have hs' : s < (fillA n i).size * 11 := by rw [fillA_size]; simpa using hs
    obtain ⟨_, ⟨u, q2⟩, q3⟩ := h s hs'
    rw [Nat.zero_add]
    refine ⟨?_, q3⟩
    rw [getElem!_pos _ s hs, q2]
    simp [q2]
  have F2 := holds_setCells_c F (i * 11) vs (by rw [hv, Array.size_map, Array.size_range]; omega)
  have q := (F2 t (by rw [size_setMany, Array.size_map, Array.size_range]; exact ht')).1
  rw [Nat.zero_add, Nat.zero_add] at q
  refine ⟨fun e => ?_, ⟨_, q⟩, by rw [World.frozen?_setCells]; exact h3⟩
  rw [q, get_setMany _ _ _ t (by rw [Array.size_map, Array.size_range]; exact ht'), hv, if_neg (by omega), getElem!_pos _ t (by rw [Array.size_map, Array.size_range]; exact ht')]
  have e1 := h1 e
  simp [e1]
theorem rg_store {w W : World} {p4 p6 : Addr} {I : List Dst} {g gs bx i n : Nat} {a : Option Addr} {zn c : Nat} {sn : ByteArray} {zh zo yh yo : Int} {zz yz : Option Addr} (hi : i < n) (hgw : g < w.heap.size) (hsw : gs < w.heap.size) (hbw : w.heap.size < bx) (v0 v1 v2 v3 v4 v5 v6 v7 v8 v9 v10 : Value)
    (h : Gr w W ∧ w.heap.size < W.heap.size ∧ bx < W.heap.size ∧ Rest (encS p4 p6 znS I) 11 W w.heap.size (fillA n i) i ∧ W.cell? ⟨g, i * 2, none⟩ = some (.slice a zn c) ∧ W.cell? ⟨g, i * 2 + 1, none⟩ = some (.string sn) ∧ W.cell? ⟨bx, 0, none⟩ = some (.int .u64 zh) ∧ W.cell? ⟨bx, 1, none⟩ = some (.int .u64 zo) ∧ W.cell? ⟨bx, 2, none⟩ = some (.pointer zz) ∧ W.cell? ⟨gs, i * 3, none⟩ = some (.int .u64 yh) ∧ W.cell? ⟨gs, i * 3 + 1, none⟩ = some (.int .u64 yo) ∧ W.cell? ⟨gs, i * 3 + 2, none⟩ = some (.pointer yz)) : (fun W' : World => Gr w W' ∧ w.heap.size < W'.heap.size ∧ bx < W'.heap.size ∧ Rest (encS p4 p6 znS I) 11 W' w.heap.size (fillA n i) i ∧ W'.cell? ⟨g, i * 2, none⟩ = some (.slice a zn c) ∧ W'.cell? ⟨g, i * 2 + 1, none⟩ = some (.string sn) ∧ W'.cell? ⟨bx, 0, none⟩ = some (.int .u64 zh) ∧ W'.cell? ⟨bx, 1, none⟩ = some (.int .u64 zo) ∧ W'.cell? ⟨bx, 2, none⟩ = some (.pointer zz) ∧ W'.cell? ⟨gs, i * 3, none⟩ = some (.int .u64 yh) ∧ W'.cell? ⟨gs, i * 3 + 1, none⟩ = some (.int .u64 yo) ∧ W'.cell? ⟨gs, i * 3 + 2, none⟩ = some (.pointer yz) ∧ W'.cell? ⟨w.heap.size, i * 11, none⟩ = some (cellOr W' w.heap.size (i * 11)) ∧ W'.cell? ⟨w.heap.size, i * 11 + 1, none⟩ = some (cellOr W' w.heap.size (i * 11 + 1)) ∧ W'.cell? ⟨w.heap.size, i * 11 + 2, none⟩ = some (cellOr W' w.heap.size (i * 11 + 2)) ∧ W'.cell? ⟨w.heap.size, i * 11 + 3, none⟩ = some (cellOr W' w.heap.size (i * 11 + 3)) ∧ W'.cell? ⟨w.heap.size, i * 11 + 4, none⟩ = some (cellOr W' w.heap.size (i * 11 + 4)) ∧ W'.cell? ⟨w.heap.size, i * 11 + 5, none⟩ = some (cellOr W' w.heap.size (i * 11 + 5)) ∧ W'.cell? ⟨w.heap.size, i * 11 + 6, none⟩ = some (cellOr W' w.heap.size (i * 11 + 6)) ∧ W'.cell? ⟨w.heap.size, i * 11 + 7, none⟩ = some (cellOr W' w.heap.size (i * 11 + 7)) ∧ W'.cell? ⟨w.heap.size, i * 11 + 8, none⟩ = some (cellOr W' w.heap.size (i * 11 + 8)) ∧ W'.cell? ⟨w.heap.size, i * 11 + 9, none⟩ = some (cellOr W' w.heap.size (i * 11 + 9)) ∧ W'.cell? ⟨w.heap.size, i * 11 + 10, none⟩ = some (cellOr W' w.heap.size (i * 11 + 10)) ∧ W'.frozen? ⟨w.heap.size, i * 11, none⟩ = false ∧ W'.frozen? ⟨w.heap.size, i * 11 + 1, none⟩ = false ∧ W'.frozen? ⟨w.heap.size, i * 11 + 2, none⟩ = false ∧ W'.frozen? ⟨w.heap.size, i * 11 + 3, none⟩ = false ∧ W'.frozen? ⟨w.heap.size, i * 11 + 4, none⟩ = false ∧ W'.frozen? ⟨w.heap.size, i * 11 + 5, none⟩ = false ∧ W'.frozen? ⟨w.heap.size, i * 11 + 6, none⟩ = false ∧ W'.frozen? ⟨w.heap.size, i * 11 + 7, none⟩ = false ∧ W'.frozen? ⟨w.heap.size, i * 11 + 8, none⟩ = false ∧ W'.frozen? ⟨w.heap.size, i * 11 + 9, none⟩ = false ∧ W'.frozen? ⟨w.heap.size, i * 11 + 10, none⟩ = false) (((((((((((W.setCell ⟨w.heap.size, i * 11, none⟩ v0).setCell ⟨w.heap.size, i * 11 + 1, none⟩ v1).setCell ⟨w.heap.size, i * 11 + 2, none⟩ v2).setCell ⟨w.heap.size, i * 11 + 3, none⟩ v3).setCell ⟨w.heap.size, i * 11 + 4, none⟩ v4).setCell ⟨w.heap.size, i * 11 + 5, none⟩ v5).setCell ⟨w.heap.size, i * 11 + 6, none⟩ v6).setCell ⟨w.heap.size, i * 11 + 7, none⟩ v7).setCell ⟨w.heap.size, i * 11 + 8, none⟩ v8).setCell ⟨w.heap.size, i * 11 + 9, none⟩ v9).setCell ⟨w.heap.size, i * 11 + 10, none⟩ v10) := by
  show (fun W' : World => Gr w W' ∧ w.heap.size < W'.heap.size ∧ bx < W'.heap.size ∧ Rest (encS p4 p6 znS I) 11 W' w.heap.size (fillA n i) i ∧ W'.cell? ⟨g, i * 2, none⟩ = some (.slice a zn c) ∧ W'.cell? ⟨g, i * 2 + 1, none⟩ = some (.string sn) ∧ W'.cell? ⟨bx, 0, none⟩ = some (.int .u64 zh) ∧ W'.cell? ⟨bx, 1, none⟩ = some (.int .u64 zo) ∧ W'.cell? ⟨bx, 2, none⟩ = some (.pointer zz) ∧ W'.cell? ⟨gs, i * 3, none⟩ = some (.int .u64 yh) ∧ W'.cell? ⟨gs, i * 3 + 1, none⟩ = some (.int .u64 yo) ∧ W'.cell? ⟨gs, i * 3 + 2, none⟩ = some (.pointer yz) ∧ W'.cell? ⟨w.heap.size, i * 11, none⟩ = some (cellOr W' w.heap.size (i * 11)) ∧ W'.cell? ⟨w.heap.size, i * 11 + 1, none⟩ = some (cellOr W' w.heap.size (i * 11 + 1)) ∧ W'.cell? ⟨w.heap.size, i * 11 + 2, none⟩ = some (cellOr W' w.heap.size (i * 11 + 2)) ∧ W'.cell? ⟨w.heap.size, i * 11 + 3, none⟩ = some (cellOr W' w.heap.size (i * 11 + 3)) ∧ W'.cell? ⟨w.heap.size, i * 11 + 4, none⟩ = some (cellOr W' w.heap.size (i * 11 + 4)) ∧ W'.cell? ⟨w.heap.size, i * 11 + 5, none⟩ = some (cellOr W' w.heap.size (i * 11 + 5)) ∧ W'.cell? ⟨w.heap.size, i * 11 + 6, none⟩ = some (cellOr W' w.heap.size (i * 11 + 6)) ∧ W'.cell? ⟨w.heap.size, i * 11 + 7, none⟩ = some (cellOr W' w.heap.size (i * 11 + 7)) ∧ W'.cell? ⟨w.heap.size, i * 11 + 8, none⟩ = some (cellOr W' w.heap.size (i * 11 + 8)) ∧ W'.cell? ⟨w.heap.size, i * 11 + 9, none⟩ = some (cellOr W' w.heap.size (i * 11 + 9)) ∧ W'.cell? ⟨w.heap.size, i * 11 + 10, none⟩ = some (cellOr W' w.heap.size (i * 11 + 10)) ∧ W'.frozen? ⟨w.heap.size, i * 11, none⟩ = false ∧ W'.frozen? ⟨w.heap.size, i * 11 + 1, none⟩ = false ∧ W'.frozen? ⟨w.heap.size, i * 11 + 2, none⟩ = false ∧ W'.frozen? ⟨w.heap.size, i * 11 + 3, none⟩ = false ∧ W'.frozen? ⟨w.heap.size, i * 11 + 4, none⟩ = false ∧ W'.frozen? ⟨w.heap.size, i * 11 + 5, none⟩ = false ∧ W'.frozen? ⟨w.heap.size, i * 11 + 6, none⟩ = false ∧ W'.frozen? ⟨w.heap.size, i * 11 + 7, none⟩ = false ∧ W'.frozen? ⟨w.heap.size, i * 11 + 8, none⟩ = false ∧ W'.frozen? ⟨w.heap.size, i * 11 + 9, none⟩ = false ∧ W'.frozen? ⟨w.heap.size, i * 11 + 10, none⟩ = false) (W.setCells w.heap.size (i * 11) [v0, v1, v2, v3, v4, v5, v6, v7, v8, v9, v10])
  obtain ⟨h0, hb, hx, h1, h2, h3, h4, h5, h6, h7, h8, h9⟩ := h
  have R := rest_store h1 [v0, v1, v2, v3, v4, v5, v6, v7, v8, v9, v10] rfl hi
  have C := rest_cells hi R
  have o : ∀ b o v, b ≠ w.heap.size → W.cell? ⟨b, o, none⟩ = some v → (W.setCells w.heap.size (i * 11) [v0, v1, v2, v3, v4, v5, v6, v7, v8, v9, v10]).cell? ⟨b, o, none⟩ = some v := fun b o v hb h => by
    rw [World.cell?_setCells_out w.heap.size _ _ _ _ (fun e _ => absurd e hb)]; exact h
  have G : Gr w (W.setCells w.heap.size (i * 11) [v0, v1, v2, v3, v4, v5, v6, v7, v8, v9, v10]) :=
    (((((((((((h0.setCell (p := ⟨w.heap.size, _, none⟩) (Nat.le_refl _) v0).setCell (p := ⟨w.heap.size, _, none⟩) (Nat.le_refl _) v1).setCell (p := ⟨w.heap.size, _, none⟩) (Nat.le_refl _) v2).setCell (p := ⟨w.heap.size, _, none⟩) (Nat.le_refl _) v3).setCell (p := ⟨w.heap.size, _, none⟩) (Nat.le_refl _) v4).setCell (p := ⟨w.heap.size, _, none⟩) (Nat.le_refl _) v5).setCell (p := ⟨w.heap.size, _, none⟩) (Nat.le_refl _) v6).setCell (p := ⟨w.heap.size, _, none⟩) (Nat.le_refl _) v7).setCell (p := ⟨w.heap.size, _, none⟩) (Nat.le_refl _) v8).setCell (p := ⟨w.heap.size, _, none⟩) (Nat.le_refl _) v9).setCell (p := ⟨w.heap.size, _, none⟩) (Nat.le_refl _) v10)
  have Z : (W.setCells w.heap.size (i * 11) [v0, v1, v2, v3, v4, v5, v6, v7, v8, v9, v10]).heap.size = W.heap.size := size_setCells _ _ _ _
  exact ⟨G, by rw [Z]; exact hb, by rw [Z]; exact hx, R, o _ _ _ (by omega) h2, o _ _ _ (by omega) h3, o _ _ _ (by omega) h4, o _ _ _ (by omega) h5, o _ _ _ (by omega) h6, o _ _ _ (by omega) h7, o _ _ _ (by omega) h8, o _ _ _ (by omega) h9,
    (C 0 (by decide)).1, (C 1 (by decide)).1, (C 2 (by decide)).1, (C 3 (by decide)).1, (C 4 (by decide)).1, (C 5 (by decide)).1, (C 6 (by decide)).1, (C 7 (by decide)).1, (C 8 (by decide)).1, (C 9 (by decide)).1, (C 10 (by decide)).1,
    (C 0 (by decide)).2, (C 1 (by decide)).2, (C 2 (by decide)).2, (C 3 (by decide)).2, (C 4 (by decide)).2, (C 5 (by decide)).2, (C 6 (by decide)).2, (C 7 (by decide)).2, (C 8 (by decide)).2, (C 9 (by decide)).2, (C 10 (by decide)).2⟩

theorem made_holds (p4 p6 : Addr) (I : List Dst) (n : Nat) (hn : I.length = n) (w : World) : HoldsK (encS p4 p6 znS I) 11 (w.alloc (.cells (madeCells zeroV.toArray (n * 11)) 97)) w.heap.size 0 (fillA n 0) := by
  intro t ht
  rw [size_flatK, fillA_size] at ht
  rw [Nat.zero_add]
  have e : (flatK (encS p4 p6 znS I) 11 (fillA n 0))[t]! = zeroV.toArray[t % 11]! := by
    rw [get_flatK _ _ _ t (by rw [fillA_size]; exact ht), fillA_get n 0 (t / 11) (by omega), if_neg (by omega)]
    unfold encS
    rw [List.getElem?_eq_none (by omega)]
    simp [zeroV]
  rw [e]
  have hs : t < (madeCells zeroV.toArray (n * 11)).size := by rw [size_madeCells]; exact ht
  have e2 : (madeCells zeroV.toArray (n * 11))[t]? = some zeroV.toArray[t % 11]! := by
    rw [Array.getElem?_eq_getElem hs]
    simp only [madeCells, Array.getElem_map, Array.getElem_range]
    rfl
  constructor
  · simp [go_sem, e2]
  · simp [go_sem]

theorem Gr.grown {w w' : World} (h : Gr w w') (row : Option Nat) : w.grownBy w' row := ⟨h.below.os, h.below.tape, h.below.output, h.size, fun k hk _ => h.below.block k hk⟩
theorem grown_trans {a b c : World} {row : Option Nat} (h : a.grownBy b row) (k : b.grownBy c row) : a.grownBy c row :=
  ⟨k.os.trans h.os, k.tape.trans h.tape, k.output.trans h.output, Nat.le_trans h.size k.size, fun x hx hn => (k.block x (Nat.lt_of_lt_of_le hx h.size) hn).trans (h.block x hx hn)⟩
/-- While the addresses are laid back: j of them stand. -/
def BackRel (p4 p6 : Addr) (I : List Dst) (B g cl n : Nat) (w : World) (d : Array Nat) (j : Nat) (ys : List Value) (W : World) : Prop :=
  W.ownsRow B 74 2 (.slice (some ⟨g, 0, none⟩) n cl) n ys ∧ ys.take (j * 2) = rowL I (d.toList.take j) ∧ HoldsK (encS p4 p6 znS I) 11 W w.heap.size 0 d ∧ w.grownBy W (some g) ∧ w.drawn ≤ W.drawn ∧ g < w.heap.size
theorem BackRel.start {p4 p6 : Addr} {I : List Dst} {B g cl n : Nat} {w W : World} {d : Array Nat} {ys : List Value} (h : w.ownsRow B 74 2 (.slice (some ⟨g, 0, none⟩) n cl) n ys) (k : HoldsK (encS p4 p6 znS I) 11 W w.heap.size 0 d) (gr : Gr w W) (hg : g < w.heap.size) :
    BackRel p4 p6 I B g cl n w d 0 ys W :=
  ⟨h.kept (gr.grown none) (Or.inr (by simp [Value.ownBlock])), by simp [rowL], k, gr.grown _, gr.drawn, hg⟩
theorem BackRel.facts {p4 p6 : Addr} {I : List Dst} {B g cl n : Nat} {w W : World} {d : Array Nat} {j : Nat} {ys : List Value} (h : BackRel p4 p6 I B g cl n w d j ys W) (hn : I.length = n) (hx : Ordd (cfI I) n d.toList) (hj : j < n) :
    ∃ x a c z y, d.toList[j]? = some x ∧ I[x]? = some (a, c, z, y) ∧ W.cell? ⟨w.heap.size, j * 11, none⟩ = some (.slice a z.length c) ∧ W.cell? ⟨w.heap.size, j * 11 + 1, none⟩ = some (.string (numS x)) ∧
      (∃ v, W.cell? ⟨g, j * 2, none⟩ = some v) ∧ (∃ v, W.cell? ⟨g, j * 2 + 1, none⟩ = some v) ∧ W.frozen? ⟨g, j * 2, none⟩ = false ∧ W.frozen? ⟨g, j * 2 + 1, none⟩ = false := by
  obtain ⟨h1, _, h3, _, _, _⟩ := h
  have hl : d.toList.length = n := by have := hx.1.length_eq; simpa using this
  have hs : d.size = n := by simpa using hl
  have hj' : j < d.size := by omega
  have hm : d[j] ∈ d.toList := by simp
  have hxn : d[j] < n := by
    have := hx.1.mem_iff.1 hm
    simpa using this
  obtain ⟨⟨a, c, z, y⟩, hr⟩ : ∃ r, I[d[j]]? = some r := ⟨I[d[j]]'(by omega), List.getElem?_eq_getElem _⟩
  have e : encS p4 p6 znS I d[j]! = infoV p4 p6 (znS d[j]) (a, c, z, y) := by
    rw [getElem!_pos d j hj']
    unfold encS
    rw [hr]
  have c0 := (h3.cell (i := j) (c := 0) hj' (by decide)).1
  have c1 := (h3.cell (i := j) (c := 1) hj' (by decide)).1
  rw [e, Nat.zero_add] at c0 c1
  have q := h1.1
  have k0 := h1.cellAt (j * 2) (by omega)
  have k1 := h1.cellAt (j * 2 + 1) (by omega)
  refine ⟨d[j], a, c, z, y, by simp [hj'], hr, c0, c1, ⟨_, k0.trans (List.getElem?_eq_getElem (by omega))⟩, ⟨_, k1.trans (List.getElem?_eq_getElem (by omega))⟩, h1.frozenAt _, h1.frozenAt _⟩
theorem holdsK_other {enc : Nat → List Value} {k : Nat} {W : World} {blk g o : Nat} {d : Array Nat} (h : HoldsK enc k W blk 0 d) (hn : g ≠ blk) (u : Value) : HoldsK enc k (W.setCell ⟨g, o, none⟩ u) blk 0 d := by
  intro t ht
  obtain ⟨h1, h2⟩ := h t ht
  refine ⟨?_, by rw [World.frozen?_setCell]; exact h2⟩
  rw [World.cell?_setCell_other _ _ _ _ (fun e => hn (by rw [Addr.mk.injEq] at e; exact e.1))]
  exact h1
theorem BackRel.step {p4 p6 : Addr} {I : List Dst} {B g cl n : Nat} {w W : World} {d : Array Nat} {j x c : Nat} {a : Option Addr} {z y : List Int} {ys : List Value} (h : BackRel p4 p6 I B g cl n w d j ys W) (hx : d.toList[j]? = some x) (hr : I[x]? = some (a, c, z, y)) (hj : j < n) :
    BackRel p4 p6 I B g cl n w d (j + 1) ((ys.set (j * 2) (.slice a z.length c)).set (j * 2 + 1) (.string (numS x))) ((W.setCell ⟨g, j * 2, none⟩ (.slice a z.length c)).setCell ⟨g, j * 2 + 1, none⟩ (.string (numS x))) := by
  obtain ⟨h1, h2, h3, h4, h5, h6⟩ := h
  obtain ⟨o1, g1⟩ := h1.stored (j * 2) (.slice a z.length c)
  obtain ⟨o2, g2⟩ := o1.stored (j * 2 + 1) (.string (numS x))
  refine ⟨o2, ?_, holdsK_other (holdsK_other h3 (by omega) _) (by omega) _, grown_trans h4 (grown_trans g1 g2), h5, h6⟩
  have hl : ys.length = n * 2 := h1.1
  have e : rowL I (d.toList.take (j + 1)) = rowL I (d.toList.take j) ++ [.slice a z.length c, .string (numS x)] := by
    rw [List.take_add_one, hx]
    unfold rowL
    rw [List.flatMap_append]
    simp [cells2, hr, znS]
  rw [e, ← h2, show (j + 1) * 2 = j * 2 + 1 + 1 by omega]
  apply List.ext_getElem?
  intro t
  rw [List.getElem?_take]
  by_cases c1 : t < j * 2
  · rw [if_pos (by omega), List.getElem?_set_ne (by omega), List.getElem?_set_ne (by omega), List.getElem?_append_left (by simp; omega), List.getElem?_take, if_pos c1]
  · have hm : (ys.take (j * 2)).length = j * 2 := by simp; omega
    rw [List.getElem?_append_right (by omega), hm]
    by_cases c2 : t = j * 2
    · subst c2
      rw [if_pos (by omega), List.getElem?_set_ne (by omega), List.getElem?_set_self (by omega)]
      simp
    · by_cases c3 : t = j * 2 + 1
      · subst c3
        rw [if_pos (by omega), List.getElem?_set_self (by rw [List.length_set]; omega)]
        simp
      · rw [if_neg (by omega), List.getElem?_eq_none (by simp; omega)]
theorem BackRel.done {p4 p6 : Addr} {I : List Dst} {B g cl n : Nat} {w W : World} {d : Array Nat} {ys : List Value} (h : BackRel p4 p6 I B g cl n w d n ys W) (hs : d.size = n) :
    W.ownsRow B 74 2 (.slice (some ⟨g, 0, none⟩) n cl) n (rowL I d.toList) ∧ w.grownBy W (some g) ∧ w.drawn ≤ W.drawn := by
  obtain ⟨h1, h2, _, h4, h5, _⟩ := h
  rw [List.take_of_length_le (by rw [h1.1]; exact Nat.le_refl _), List.take_of_length_le (by simp; omega)] at h2
  rw [← h2]
  exact ⟨h1, h4, h5⟩

theorem encS_one (p4 p6 : Addr) (I : List Dst) (x : Nat) : ∀ v ∈ encS p4 p6 znS I x, v.oneCell' = true := by
  unfold encS
  split
  · intro v hv
    simp only [infoV, List.mem_cons, List.not_mem_nil, or_false] at hv
    rcases hv with rfl | rfl | rfl | rfl | rfl | rfl | rfl | rfl | rfl | rfl | rfl <;> rfl
  · intro v hv
    simp only [zeroV, List.mem_cons, List.not_mem_nil, or_false] at hv
    rcases hv with rfl | rfl | rfl | rfl | rfl | rfl | rfl | rfl | rfl | rfl | rfl <;> rfl
theorem gr_sortWorld {enc : Nat → List Value} {k : Nat} {w wr : World} {blk : Nat} (h : Gr w wr) (hb : w.heap.size ≤ blk) (m : Nat) (dk : Array Nat) (os : Array Obj) : Gr w (sortWorldK enc k wr blk 0 m dk os) := by
  have e : Gr w (putRowK enc k (Sort.ahead wr m) blk 0 dk) := by
    refine ⟨⟨h.below.os, h.below.tape, h.below.output, ?_, fun b hb2 => ?_⟩, ?_⟩
    · rw [size_putRowK]; exact h.size
    · have : (putRowK enc k (Sort.ahead wr m) blk 0 dk).heap[b]? = wr.heap[b]? := by
        show (wr.heap.modify blk _)[b]? = _
        rw [Array.getElem?_modify, if_neg (by omega)]
      rw [this]
      exact h.below.block b hb2
    · show w.drawn ≤ wr.drawn + m
      have := h.drawn
      omega
  have := Gr.of_grow (w := putRowK enc k (Sort.ahead wr m) blk 0 dk) 0 os
  exact e.trans this
theorem sort_call (p4 p6 : Addr) (I : List Dst) (n : Nat) (hn : I.length = n) (hn1 : n ≤ 1000000) (w wr : World) (N : Net p4 p6 w) (HI : ∀ r ∈ I, DstOk w r) (hg : Gr w wr) (hlt : w.heap.size < wr.heap.size) (hk : HoldsK (encS p4 p6 znS I) 11 wr w.heap.size 0 (Array.range n))
    (e61 : ∀ args w, (callFunc 61 args).run Tryd.prog w = .ok (.enter 61 args) w) :
    Calls Tryd.prog 60 #[.slice (some ⟨w.heap.size, 0, none⟩) n n, .func (.func 61) #[] #[]] wr fun e w' => e = .returned (.tuple #[]) ∧ ∃ d' : Array Nat, Ordd (cfI I) n d'.toList ∧ HoldsK (encS p4 p6 znS I) 11 w' w.heap.size 0 d' ∧ Gr w w' := by
  have hC : CmpLays Tryd.prog 61 #[] (encS p4 p6 znS I) 11 (cfI I) w.heap.size 0 (Array.range n).size wr := fun m os dk _ x y => by
    have G := gr_sortWorld (enc := encS p4 p6 znS I) (k := 11) hg (Nat.le_refl _) m dk os
    refine (cmp_enc p4 p6 znS I x y _ (N.gr G) (fun r hr => (HI r hr).gr G)).mono ?_
    rintro e w' ⟨rfl, g⟩
    exact ⟨rfl, g.grow⟩
  have R : RowK (encS p4 p6 znS I) 11 wr w.heap.size 0 (Array.range n) := ⟨encS_len p4 p6 znS I, encS_one p4 p6 I, hk, hlt⟩
  have hs : (Array.range n).size = n := Array.size_range
  have T := sortStable_any (blk := w.heap.size) (off := 0) laySt (cfI I) (cfI_pre I) 61 #[] n (Array.range n) wr e61 hC R (SWK.start hk) (by rw [hs]; omega) (fun x y hxy hy => by
    rw [hs] at hy
    rw [getElem!_pos _ x (by rw [hs]; omega), getElem!_pos _ y (by rw [hs]; omega)]
    simpa using hxy)
  rw [hs] at T
  refine T.mono ?_
  rintro e w' ⟨rfl, d', h1, h2, h3⟩
  refine ⟨rfl, d', Ordd.of (by simp) h2 h1, ?_, ?_⟩
  · exact h3.holds hlt hk (by rw [h2.1])
  · obtain ⟨m, os, rfl⟩ := h3
    exact gr_sortWorld hg (Nat.le_refl _) m d' os

set_option maxHeartbeats 8000000 in
set_option maxRecDepth 1000000 in
theorem sortBy_any (p4 p6 : Addr) (B g cl gs cs n : Nat) (I : List Dst) (hn : I.length = n) (hn0 : 0 < n) (hn1 : n ≤ 1000000) (w : World) (N : Net p4 p6 w) (HI : ∀ r ∈ I, DstOk w r)
    (OL : w.ownsRow B 74 2 (.slice (some ⟨g, 0, none⟩) n cl) n (rowL I (List.range n))) (OS : w.ownsRow B 55 3 (.slice (some ⟨gs, 0, none⟩) n cs) n (rowS p4 p6 I (List.range n))) :
    Calls Tryd.prog 43 #[.slice (some ⟨g, 0, none⟩) n cl, .slice (some ⟨gs, 0, none⟩) n cs] w fun e w' =>
      e = .returned (.tuple #[]) ∧ ∃ xs, Ordd (cfI I) n xs ∧ w'.ownsRow B 74 2 (.slice (some ⟨g, 0, none⟩) n cl) n (rowL I xs) ∧ w.grownBy w' (some g) ∧ w.drawn ≤ w'.drawn := by
  obtain ⟨i97, hi97, hz97, hs97, hb97⟩ := info_parts info97
  have hmk : (Instr.makeSlice 92 (.int .i64 (n : Int)) (.int .i64 (n : Int))).run Tryd.prog w = .ok (.slice (some ⟨w.heap.size, 0, none⟩) n n) (w.alloc (.cells (madeCells (Value.agg zeroV.toArray).cells (n * 11)) 97)) := by
    have := run_make (P := Tryd.prog) w 92 97 i97 (.agg zeroV.toArray) Tryd.underlying92 hi97 hz97 .i64 .i64 (n : Int) (n : Int) (by omega) (Int.le_refl _) (by rw [hb97]; omega) (by omega)
    rw [hs97, Int.toNat_natCast] at this
    exact this
  have HN := Lib.hid hn
  have NN := Lib.hid N
  have HHI := Lib.hid HI
  have HOL := Lib.hid OL
  have HOS := Lib.hid OS
  have HMK := Lib.hid hmk
  clear hn N HI OL OS hi97 hz97 hs97 hb97 hmk
  go_enter Tryd.func43, Tryd.ntmps43
  have hmk := HMK.out
  go_wp2_with fail
  clear hmk HMK
  have HK0 : Hid (HoldsK (encS p4 p6 znS I) 11 (w.alloc (.cells (madeCells zeroV.toArray (n * 11)) 97)) w.heap.size 0 (fillA n 0)) := made_holds p4 p6 I n HN.out w
  have GR0 : Hid (Gr w (w.alloc (.cells (madeCells zeroV.toArray (n * 11)) 97))) := (Gr.refl w).alloc _
  have hlt0 : w.heap.size < (w.alloc (.cells (madeCells zeroV.toArray (n * 11)) 97)).heap.size := by simp
  generalize w.alloc (.cells (madeCells zeroV.toArray (n * 11)) 97) = w1 at HK0 GR0 hlt0 ⊢
  go_loopg [21] n (fun kx s21 wr => ∃ i : Nat, s21 = .int .i64 i ∧ i ≤ n ∧ n - i ≤ kx ∧ w.heap.size < wr.heap.size ∧ Hid (Gr w wr) ∧ Hid (HoldsK (encS p4 p6 znS I) 11 wr w.heap.size 0 (fillA n i)))
  case atStart => exact ⟨0, by go_num, Nat.zero_le _, by omega, hlt0, GR0, HK0⟩
  case round =>
    clear GR0 HK0 hlt0
    obtain ⟨i, rfl, hin, hkx, hlt, HG, HK⟩ := hrel
    by_cases hi : i < n
    · have hiz : (i : Int) < (n : Int) := by omega
      obtain ⟨⟨a, c, z, y⟩, hr⟩ : ∃ r, I[i]? = some r := ⟨I[i]'(by have := HN.out; omega), List.getElem?_eq_getElem _⟩
      have hd := HHI.out _ (List.mem_of_getElem? hr)
      obtain ⟨hz1, hz2, hz3, hz4⟩ := hd
      simp only at hz1 hz2 hz3 hz4
      obtain ⟨q0, q1, q2, q3, q4⟩ := round_facts HOL.out HOS.out hi hr
      have hgl : g < w.heap.size := World.block_lt_of_cell? _ _ q0
      have hsl : gs < w.heap.size := World.block_lt_of_cell? _ _ q2
      have l0 := HG.out.cell (p := ⟨g, _, none⟩) hgl q0
      have l1 := HG.out.cell (p := ⟨g, _, none⟩) hgl q1
      have s0 := HG.out.cell (p := ⟨gs, _, none⟩) hsl q2
      have s1 := HG.out.cell (p := ⟨gs, _, none⟩) hsl q3
      have s2 := HG.out.cell (p := ⟨gs, _, none⟩) hsl q4
      have ENC := Lib.hid (encS_at p4 p6 hr hz1)
      have FS := Lib.hid (fun W g => fromSlice p4 p6 a z c W (NN.out.gr (w' := W) g) (hz3.gr g))
      have A1 := Lib.hid (fun W g => attr_any p4 p6 z hz3.1 W (NN.out.gr (w' := W) g))
      have A2 := Lib.hid (fun W g => attr_any p4 p6 y hz4 W (NN.out.gr (w' := W) g))
      clear q0 q1 q2 q3 q4 hz1 hz2 hz3 hz4 hr
      generalize (famOf z).isSome = okz at *
      generalize z.length = zn at *
      generalize hiOf z = zh at *
      generalize loOf z = zo at *
      generalize zp p4 p6 (famOf z) = zz at *
      generalize hiOf y = yh at *
      generalize loOf y = yo at *
      generalize zp p4 p6 (famOf y) = yz at *
      generalize sc0 z = sz at *
      generalize pr0 z = pz at *
      generalize lb0 z = lz at *
      generalize sc0 y = sy at *
      generalize pr0 y = py at *
      generalize lb0 y = ly at *
      simp only [znS] at l1 ENC
      generalize numS i = sn at *
      go_wp2_with fail
      refine (FS.out _ (HG.out.alloc _)).mono ?_
      rintro e w3 ⟨rfl, hg⟩
      have hg3 : Gr wr w3 := ((Gr.refl wr).alloc _).trans hg
      have hs3 : wr.heap.size < w3.heap.size := by have := hg.size; simp at this; omega
      clear hg
      go_upto_region 7 with fail
      have hx0 : w.heap.size < w3.heap.size := by omega
      have gr4 : Gr wr (w3.alloc (.cells #[.int .u64 zh, .int .u64 zo, .pointer zz] 55)) := hg3.alloc _
      have b0 : (w3.alloc (.cells #[.int .u64 zh, .int .u64 zo, .pointer zz] 55)).cell? ⟨w3.heap.size, 0, none⟩ = some (.int .u64 zh) := by simp [go_sem]
      have b1 : (w3.alloc (.cells #[.int .u64 zh, .int .u64 zo, .pointer zz] 55)).cell? ⟨w3.heap.size, 1, none⟩ = some (.int .u64 zo) := by simp [go_sem]
      have b2 : (w3.alloc (.cells #[.int .u64 zh, .int .u64 zo, .pointer zz] 55)).cell? ⟨w3.heap.size, 2, none⟩ = some (.pointer zz) := by simp [go_sem]
      have hbx : w3.heap.size < (w3.alloc (.cells #[.int .u64 zh, .int .u64 zo, .pointer zz] 55)).heap.size := by simp
      generalize hbxe : w3.heap.size = bx at *
      generalize w3.alloc (.cells #[.int .u64 zh, .int .u64 zo, .pointer zz] 55) = w2 at *
      clear hbxe
      have R0 : Rest (encS p4 p6 znS I) 11 wr w.heap.size (fillA n i) i := Rest.of HK.out
      have hw2 : w.heap.size < w2.heap.size := Nat.lt_of_lt_of_le hlt gr4.size
      have hgr : g < wr.heap.size := World.block_lt_of_cell? _ _ l0
      have hsr : gs < wr.heap.size := World.block_lt_of_cell? _ _ s0
      have hst0 := rg_step (w := w) (p4 := p4) (p6 := p6) (I := I) (g := g) (gs := gs) (bx := bx) (i := i) (n := n) (a := a) (zn := zn) (c := c) (sn := sn) (zh := zh) (zo := zo) (yh := yh) (yo := yo) (zz := zz) (yz := yz) hi ⟨HG.out.trans gr4, hw2, hbx, R0.gr gr4 hlt, gr4.cell hgr l0, gr4.cell hgr l1, b0, b1, b2, gr4.cell hsr s0, gr4.cell hsr s1, gr4.cell hsr s2⟩ (Gr.refl w2)
      obtain ⟨k0, k1, k2, k3, k4, k5, k6, k7, k8, k9, k10, k11, k12, k13, k14, k15, k16, k17, k18, k19, k20, k21, k22, k23, k24, k25, k26, k27, k28, k29, k30, k31, k32, k33⟩ := hst0
      clear l0 l1 s0 s1 s2 b0 b1 b2 R0 gr4 hg3 hs3 FS HK
      go_region_held3 (fun w' => Gr w w' ∧ w.heap.size < w'.heap.size ∧ bx < w'.heap.size ∧ Rest (encS p4 p6 znS I) 11 w' w.heap.size (fillA n i) i ∧ w'.cell? ⟨g, i * 2, none⟩ = some (.slice a zn c) ∧ w'.cell? ⟨g, i * 2 + 1, none⟩ = some (.string sn) ∧ w'.cell? ⟨bx, 0, none⟩ = some (.int .u64 zh) ∧ w'.cell? ⟨bx, 1, none⟩ = some (.int .u64 zo) ∧ w'.cell? ⟨bx, 2, none⟩ = some (.pointer zz) ∧ w'.cell? ⟨gs, i * 3, none⟩ = some (.int .u64 yh) ∧ w'.cell? ⟨gs, i * 3 + 1, none⟩ = some (.int .u64 yo) ∧ w'.cell? ⟨gs, i * 3 + 2, none⟩ = some (.pointer yz) ∧ w'.cell? ⟨w.heap.size, i * 11, none⟩ = some (cellOr w' w.heap.size (i * 11)) ∧ w'.cell? ⟨w.heap.size, i * 11 + 1, none⟩ = some (cellOr w' w.heap.size (i * 11 + 1)) ∧ w'.cell? ⟨w.heap.size, i * 11 + 2, none⟩ = some (cellOr w' w.heap.size (i * 11 + 2)) ∧ w'.cell? ⟨w.heap.size, i * 11 + 3, none⟩ = some (cellOr w' w.heap.size (i * 11 + 3)) ∧ w'.cell? ⟨w.heap.size, i * 11 + 4, none⟩ = some (cellOr w' w.heap.size (i * 11 + 4)) ∧ w'.cell? ⟨w.heap.size, i * 11 + 5, none⟩ = some (cellOr w' w.heap.size (i * 11 + 5)) ∧ w'.cell? ⟨w.heap.size, i * 11 + 6, none⟩ = some (cellOr w' w.heap.size (i * 11 + 6)) ∧ w'.cell? ⟨w.heap.size, i * 11 + 7, none⟩ = some (cellOr w' w.heap.size (i * 11 + 7)) ∧ w'.cell? ⟨w.heap.size, i * 11 + 8, none⟩ = some (cellOr w' w.heap.size (i * 11 + 8)) ∧ w'.cell? ⟨w.heap.size, i * 11 + 9, none⟩ = some (cellOr w' w.heap.size (i * 11 + 9)) ∧ w'.cell? ⟨w.heap.size, i * 11 + 10, none⟩ = some (cellOr w' w.heap.size (i * 11 + 10)) ∧ w'.frozen? ⟨w.heap.size, i * 11, none⟩ = false ∧ w'.frozen? ⟨w.heap.size, i * 11 + 1, none⟩ = false ∧ w'.frozen? ⟨w.heap.size, i * 11 + 2, none⟩ = false ∧ w'.frozen? ⟨w.heap.size, i * 11 + 3, none⟩ = false ∧ w'.frozen? ⟨w.heap.size, i * 11 + 4, none⟩ = false ∧ w'.frozen? ⟨w.heap.size, i * 11 + 5, none⟩ = false ∧ w'.frozen? ⟨w.heap.size, i * 11 + 6, none⟩ = false ∧ w'.frozen? ⟨w.heap.size, i * 11 + 7, none⟩ = false ∧ w'.frozen? ⟨w.heap.size, i * 11 + 8, none⟩ = false ∧ w'.frozen? ⟨w.heap.size, i * 11 + 9, none⟩ = false ∧ w'.frozen? ⟨w.heap.size, i * 11 + 10, none⟩ = false) (first | (with_reducible exact ⟨by assumption, by assumption, by assumption, by assumption, by assumption, by assumption, by assumption, by assumption, by assumption, by assumption, by assumption, by assumption, by assumption, by assumption, by assumption, by assumption, by assumption, by assumption, by assumption, by assumption, by assumption, by assumption, by assumption, by assumption, by assumption, by assumption, by assumption, by assumption, by assumption, by assumption, by assumption, by assumption, by assumption, by assumption⟩) | (with_reducible exact rg_store hi hgl hsl hx0 _ _ _ _ _ _ _ _ _ _ _ ⟨by assumption, by assumption, by assumption, by assumption, by assumption, by assumption, by assumption, by assumption, by assumption, by assumption, by assumption, by assumption⟩) | (exact rg_step hi ⟨by assumption, by assumption, by assumption, by assumption, by assumption, by assumption, by assumption, by assumption, by assumption, by assumption, by assumption, by assumption⟩ (Gr.refl _).drew))
      (first
        | (go_at_call 59; (with_reducible refine (A1.out _ (by first | assumption | exact Gr.drew (by assumption))).mono ?_); rintro e w' ⟨rfl, hg'⟩; have hst := (by first | exact rg_step (w := w) (p4 := p4) (p6 := p6) (I := I) (g := g) (gs := gs) (bx := bx) (i := i) (n := n) (a := a) (zn := zn) (c := c) (sn := sn) (zh := zh) (zo := zo) (yh := yh) (yo := yo) (zz := zz) (yz := yz) hi ⟨by assumption, by assumption, by assumption, by assumption, by assumption, by assumption, by assumption, by assumption, by assumption, by assumption, by assumption, by assumption⟩ hg' | exact rg_step (w := w) (p4 := p4) (p6 := p6) (I := I) (g := g) (gs := gs) (bx := bx) (i := i) (n := n) (a := a) (zn := zn) (c := c) (sn := sn) (zh := zh) (zo := zo) (yh := yh) (yo := yo) (zz := zz) (yz := yz) hi ⟨by assumption, by assumption, by assumption, by assumption, by assumption, by assumption, by assumption, by assumption, by assumption, by assumption, by assumption, by assumption⟩ ((Gr.refl w2).drew.trans hg')); obtain ⟨k0, k1, k2, k3, k4, k5, k6, k7, k8, k9, k10, k11, k12, k13, k14, k15, k16, k17, k18, k19, k20, k21, k22, k23, k24, k25, k26, k27, k28, k29, k30, k31, k32, k33⟩ := hst)
        | (go_at_call 59; (with_reducible refine (A2.out _ (by first | assumption | exact Gr.drew (by assumption))).mono ?_); rintro e w' ⟨rfl, hg'⟩; have hst := (by first | exact rg_step (w := w) (p4 := p4) (p6 := p6) (I := I) (g := g) (gs := gs) (bx := bx) (i := i) (n := n) (a := a) (zn := zn) (c := c) (sn := sn) (zh := zh) (zo := zo) (yh := yh) (yo := yo) (zz := zz) (yz := yz) hi ⟨by assumption, by assumption, by assumption, by assumption, by assumption, by assumption, by assumption, by assumption, by assumption, by assumption, by assumption, by assumption⟩ hg' | exact rg_step (w := w) (p4 := p4) (p6 := p6) (I := I) (g := g) (gs := gs) (bx := bx) (i := i) (n := n) (a := a) (zn := zn) (c := c) (sn := sn) (zh := zh) (zo := zo) (yh := yh) (yo := yo) (zz := zz) (yz := yz) hi ⟨by assumption, by assumption, by assumption, by assumption, by assumption, by assumption, by assumption, by assumption, by assumption, by assumption, by assumption, by assumption⟩ ((Gr.refl w2).drew.trans hg')); obtain ⟨k0, k1, k2, k3, k4, k5, k6, k7, k8, k9, k10, k11, k12, k13, k14, k15, k16, k17, k18, k19, k20, k21, k22, k23, k24, k25, k26, k27, k28, k29, k30, k31, k32, k33⟩ := hst))
      rename_i hS
      obtain ⟨hfin, hszf, _⟩ := hS
      have hR0 : Rest (encS p4 p6 znS I) 11 w' w.heap.size (fillA n i) i := by assumption
      have hk2 := Rest.laid (encS_len p4 p6 znS I) hR0 hi
      rw [ENC.out] at hk2
      simp only [World.setCells, Nat.add_assoc, Nat.reduceAdd] at hk2
      have HG2 := Lib.hid hfin
      have HK2 := Lib.hid hk2
      clear hfin hk2 hR0
      generalize (((((((((((w'.setCell ⟨w.heap.size, i * 11, none⟩ (.slice a zn c)).setCell ⟨w.heap.size, i * 11 + 1, none⟩ (.string sn)).setCell ⟨w.heap.size, i * 11 + 2, none⟩ (.int .u8 sz)).setCell ⟨w.heap.size, i * 11 + 3, none⟩ (.int .u8 pz)).setCell ⟨w.heap.size, i * 11 + 4, none⟩ (.int .u8 lz)).setCell ⟨w.heap.size, i * 11 + 5, none⟩ (.int .u64 yh)).setCell ⟨w.heap.size, i * 11 + 6, none⟩ (.int .u64 yo)).setCell ⟨w.heap.size, i * 11 + 7, none⟩ (.pointer yz)).setCell ⟨w.heap.size, i * 11 + 8, none⟩ (.int .u8 sy)).setCell ⟨w.heap.size, i * 11 + 9, none⟩ (.int .u8 py)).setCell ⟨w.heap.size, i * 11 + 10, none⟩ (.int .u8 ly)) = w5 at HG2 HK2 hszf ⊢
      go_wp2_with fail
      go_roundg (n - (i + 1))
      case measure => omega
      case rel => exact ⟨i + 1, by go_num, hi, Nat.le_refl _, hszf, HG2, HK2⟩
    · have hiz : ¬ (i : Int) < (n : Int) := by omega
      obtain rfl : i = n := by omega
      have e61 : ∀ args w, (callFunc 61 args).run Tryd.prog w = .ok (.enter 61 args) w := enters_of Tryd.func61 rfl rfl
      have hsort := sort_call p4 p6 I i HN.out hn1 w wr NN.out HHI.out HG.out hlt (by rw [← fillA_full]; exact HK.out) e61
      have HS := Lib.hid hsort
      clear hsort
      go_wp2_with (go_at_call 60; refine HS.out.mono ?_; rintro e w2 ⟨rfl, xs, hxs, hk2, hg2⟩; have XS := Lib.hid hxs; have HK2 := Lib.hid hk2; have HG2 := Lib.hid hg2; clear hxs hk2 hg2)
      have hL2 : g < w.heap.size := World.block_lt_of_cell? _ _ (rowL_cell HOL.out 0 0 0 (by rw [List.getElem?_range (by omega)]) (by decide))
      have REL0 : Hid (BackRel p4 p6 I B g cl i w xs 0 (rowL I (List.range i)) w2) := BackRel.start HOL.out HK2.out HG2.out hL2
      have XL : xs.size = i := by have := XS.out.1.length_eq; simpa using this
      have HXL := Lib.hid XL
      clear HS HK2 HG2 HG HK hlt hin hkx NN HOL HOS XL hiz
      go_loopg [56] i (fun kx s56 wr => ∃ (j : Nat) (ys : List Value), s56 = .int .i64 j ∧ j ≤ i ∧ i - j ≤ kx ∧ Hid (BackRel p4 p6 I B g cl i w xs j ys wr))
      case atStart => exact ⟨0, _, by go_num, Nat.zero_le _, by omega, REL0⟩
      case round =>
        clear REL0
        obtain ⟨j, ys, rfl, hjn, hkx, HR⟩ := hrel
        by_cases hj : j < i
        · have hjz : (j : Int) < (i : Int) := by omega
          obtain ⟨x, a, c, z, y, hx, hr, b0, b1, ⟨v0, t0⟩, ⟨v1, t1⟩, f0, f1⟩ := HR.out.facts HN.out XS.out hj
          have HX := Lib.hid (And.intro hx hr)
          clear hx hr
          have ST := Lib.hid (HR.out.step HX.out.1 HX.out.2 hj)
          have hgl : g < wr.heap.size := World.block_lt_of_cell? _ _ t0
          clear HR
          generalize z.length = zn at *
          generalize numS x = sn at *
          clear HX
          go_wp2
          go_roundg (i - (j + 1))
          case measure => omega
          case rel => exact ⟨j + 1, _, by go_num, hj, Nat.le_refl _, ST⟩
        · have hjz : ¬ (j : Int) < (i : Int) := by omega
          obtain rfl : j = i := by omega
          go_wp2
          go_end0
          exact ⟨rfl, xs.toList, XS.out, HR.out.done HXL.out⟩
end Go.Proofs.YtbejikpopealdaaDoor
