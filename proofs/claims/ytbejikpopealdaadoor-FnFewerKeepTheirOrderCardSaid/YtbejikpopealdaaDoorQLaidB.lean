/-
  What the condition on the listed package variables gives the walks ('Net'); how an argument of bytes reads ('HoldsB').
-/
import Derived.Test.YtbejikpopealdaaDoorQCplB
import Derived.ProofKit
import Derived.LaidMore
import Derived.OpenShut
import Derived.Stop.Joined
import Derived.ChangeOld
import Derived.Lay
import Derived.Deep.Matrix
namespace Go.Proofs.YtbejikpopealdaaDoor
open Go.ChangeShapes Go.WideShapes Go.ChangeAt Go.RowKit

theorem own : ownKnob Tryd.prog.godebug = none := by kernel_rfl
theorem laidOut : laidOutB Tryd.prog = true := by kernel_rfl

set_option maxRecDepth 100000 in
/-- A handle's cell, out of its reading. -/
theorem handle_ptr {W : World} {fuel : Nat} {cs : List Value} {d : DataW Unit} {p : List MemPlace} (h : DataW.trod (fun _ => ()) Tryd.prog W 0 (fun _ => true) false fuel 53 cs = some (.agg [.ptr d], p)) :
    ∃ a : Addr, cs = [.pointer (some a)] ∧ MemPlace.cell a.block a.off ∈ p := by
  obtain ⟨y0, n, hx, hl, hf⟩ := trod_struct1 Tryd.underlying53 h
  simp only [Prod.mk.injEq, DataW.agg.injEq, List.cons.injEq, and_true] at hx
  have c53 : Tryd.prog.cellsOf 53 = 1 := by kernel_rfl
  have c51 : Tryd.prog.cellsOf 51 = 1 := by kernel_rfl
  rw [c53] at hl
  match cs, hl with
  | [v], _ =>
    simp only [List.drop_zero, c51, List.take_succ_cons, List.take_zero] at hf
    rcases DataW.trod_pointer Tryd.underlying51 hf with ⟨_, hy⟩ | ⟨a, cs', y, m, _, hcs, hy, _, _⟩
    · rw [hy] at hx; cases hx.1
    · refine ⟨a, hcs, ?_⟩
      rw [hx.2, hy]
      have c165 : Tryd.prog.cellsOf 165 = 2 := by kernel_rfl
      simp only [c165, MemPlace.row, List.mem_append, List.mem_map, List.mem_range]
      exact Or.inl ⟨0, by omega, by simp⟩

set_option maxRecDepth 100000 in
theorem handle_nil {W : World} {fuel : Nat} {cs : List Value} {p : List MemPlace} (h : DataW.trod (fun _ => ()) Tryd.prog W 0 (fun _ => true) false fuel 53 cs = some (.agg [.nil], p)) :
    cs = [.pointer none] := by
  obtain ⟨y0, n, hx, hl, hf⟩ := trod_struct1 Tryd.underlying53 h
  simp only [Prod.mk.injEq, DataW.agg.injEq, List.cons.injEq, and_true] at hx
  have c53 : Tryd.prog.cellsOf 53 = 1 := by kernel_rfl
  have c51 : Tryd.prog.cellsOf 51 = 1 := by kernel_rfl
  rw [c53] at hl
  match cs, hl with
  | [v], _ =>
    simp only [List.drop_zero, c51, List.take_succ_cons, List.take_zero] at hf
    rcases DataW.trod_pointer Tryd.underlying51 hf with ⟨hcs, _⟩ | ⟨a, cs', y, m, _, hcs, hy, _, _⟩
    · exact hcs
    · rw [hy] at hx; cases hx.1

theorem g_z4 : Tryd.prog.globalNamed "net/netip.z4" = some 0 := by kernel_rfl
theorem g_z6 : Tryd.prog.globalNamed "net/netip.z6noz" = some 1 := by kernel_rfl
theorem g_z0 : Tryd.prog.globalNamed "net/netip.z0" = some 2 := by kernel_rfl
theorem t_z4 : (Tryd.prog.globals[0]?).map (·.type) = some 53 := by kernel_rfl
theorem t_z6 : (Tryd.prog.globals[1]?).map (·.type) = some 53 := by kernel_rfl
theorem t_z0 : (Tryd.prog.globals[2]?).map (·.type) = some 53 := by kernel_rfl

/-- The three variables of net/netip, read at the list's end. -/
theorem net_of_vars {W : World} {ps : List MemPlace} (h : DataW.LaidVars Tryd.prog W [("net/netip.z4", Rows.laid_net_netip_z4), ("net/netip.z6noz", Rows.laid_net_netip_z6noz), ("net/netip.z0", Rows.laid_net_netip_z0)] ps) (hn : ps.Nodup)
    (hcell : ∀ b off, MemPlace.cell b off ∈ ps → ∃ c t, W.heap[b]? = some (.cells c t (0, 0))) : ∃ p4 p6, Net p4 p6 W := by
  obtain ⟨g0, t0, cs0, f0, p0, q0, hg0, ht0, hv0, hd0, ⟨g1, t1, cs1, f1, p1, q1, hg1, ht1, hv1, hd1, ⟨g2, t2, cs2, f2, p2, q2, hg2, ht2, hv2, hd2, hq2, e2⟩, e1⟩, e0⟩ := h
  obtain rfl := Option.some.inj (g_z4.symm.trans hg0)
  obtain rfl := Option.some.inj (g_z6.symm.trans hg1)
  obtain rfl := Option.some.inj (g_z0.symm.trans hg2)
  obtain rfl := Option.some.inj (t_z4.symm.trans ht0)
  obtain rfl := Option.some.inj (t_z6.symm.trans ht1)
  obtain rfl := Option.some.inj (t_z0.symm.trans ht2)
  obtain ⟨a4, hc4, m4⟩ := handle_ptr hd0
  obtain ⟨a6, hc6, m6⟩ := handle_ptr hd1
  have hc0 := handle_nil hd2
  have k4 := World.var?_cell hg0 hv0 0
  have k6 := World.var?_cell hg1 hv1 0
  have k0 := World.var?_cell hg2 hv2 0
  rw [Array.eq_one_of_toList hc4] at k4
  rw [Array.eq_one_of_toList hc6] at k6
  rw [Array.eq_one_of_toList hc0] at k0
  subst e0 e1 e2
  refine ⟨a4, a6, by simpa using k4, by simpa using k6, by simpa using k0, ?_, hcell a4.block a4.off (by simp [m4]), hcell a6.block a6.off (by simp [m6]), ?_⟩
  · rintro rfl
    have h1 := (List.nodup_append.1 hn).2.2 (MemPlace.cell a4.block a4.off) (by simp [m4]) (MemPlace.cell a4.block a4.off) (by simp [m6])
    exact h1 rfl
  · rcases Nat.lt_or_ge 2 W.heap.size with h' | h'
    · exact h'
    · simp [World.cell?, Array.getElem?_eq_none h'] at k0

/-- The condition of the rows that list three variables. -/
theorem net_of_laid3 {W : World} (h : laidMetH Tryd.prog Rows.fnCommonRow.laid W) : ∃ p4 p6, Net p4 p6 W := by
  rw [MakeChecks.laidMetH_plain _ _ _ (by kernel_rfl)] at h
  obtain ⟨ps, hv, hn, hc⟩ := h
  exact net_of_vars hv hn (fun b off hm => (hc b off hm).1)

theorem byt_of_wf {z : Int} (h : (Lit.int .u8 z).wf = true) : Byt z := by
  simp [Lit.wf, IntKind.min, IntKind.max, IntKind.signed, IntKind.bits] at h
  exact ⟨by omega, by omega⟩

set_option maxRecDepth 100000 in
/-- An argument of bytes, as the walks want it. -/
theorem bytes_in {H : Type} {enc : TypeId × Value → H} {W : World} {x : DataW H × List MemPlace} {fuel : Nat} {v : Value} (hval : Value.okWide Tryd.prog W .any 0 22 v)
    (h : DataW.trod enc Tryd.prog W 0 (fun _ => true) true fuel 22 v.cells.toList = some x) : ∃ a zs c, v = .slice a zs.length c ∧ zs.length ≤ c ∧ c ≤ maxLen ∧ HoldsB W a zs := by
  obtain ⟨a0, len, cap, rfl⟩ := okWide_slice Tryd.underlying22 hval
  rcases open_ints Tryd.underlying22 Tryd.underlying5 (by kernel_rfl) h with ⟨hcs, _⟩ | ⟨y, l, c, zs, hcs, _, hl, hm, hz, _, hcell, hwz⟩
  · simp [Value.cells] at hcs
    obtain ⟨rfl, rfl, rfl⟩ := hcs
    exact ⟨none, [], 0, rfl, Nat.le_refl _, Nat.zero_le _, by simp, Or.inl rfl⟩
  · simp [Value.cells] at hcs
    obtain ⟨rfl, rfl, rfl⟩ := hcs
    have hz' : zs.length = cap := by simpa using hz
    have hlen : (zs.take len).length = len := by simp; omega
    refine ⟨some y, zs.take len, cap, by rw [hlen], by omega, hm, fun z hz2 => byt_of_wf (hwz z (List.mem_of_mem_take hz2)), ?_⟩
    by_cases h0 : len = 0
    · left; subst h0; simp
    · right
      obtain ⟨b, off, spot⟩ := y
      have hc := hcell 0 (by omega)
      have hspot : spot = none := by simpa [Addr.add] using World.cell?_spot hc
      subst hspot
      have hlt : b < W.heap.size := by
        rcases Nat.lt_or_ge b W.heap.size with h' | h'
        · exact h'
        · simp [Addr.add, World.cell?, Array.getElem?_eq_none h'] at hc
      refine ⟨b, off, rfl, hlt, fun i hi => ?_⟩
      rw [hlen] at hi
      have := hcell i (by omega)
      rw [Addr.add_lit] at this
      rw [this]
      simp [hi]
end Go.Proofs.YtbejikpopealdaaDoor
/-
  An argument of rows of bytes, as the walks want it.
-/
namespace Go.Proofs.YtbejikpopealdaaDoor
open Go.ChangeShapes Go.WideShapes Go.ChangeAt Go.RowKit Go.Deep

/-- The slice value with this address holds these rows (each: address, bytes, capacity). -/
def HoldsBB (w : World) (a : Option Addr) (rs : List (Option Addr × List Int × Nat)) : Prop :=
  (∀ r ∈ rs, r.2.1.length ≤ r.2.2 ∧ r.2.2 ≤ maxLen ∧ HoldsB w r.1 r.2.1) ∧
  (rs = [] ∨ ∃ b off, a = some ⟨b, off, none⟩ ∧ b < w.heap.size ∧ ∀ i r, rs[i]? = some r → w.cell? ⟨b, off + i, none⟩ = some (.slice r.1 r.2.1.length r.2.2))

theorem row_holds {W : World} {A : Option Addr} {L C : Nat} {Z : List Int} (hl : L ≤ C) (hz : Z.length = C) (hwz : ∀ n ∈ Z, (Lit.int .u8 n).wf = true) (h0 : A = none → C = 0)
    (hc : ∀ a', A = some a' → ∀ c, c < C → W.cell? (a'.add c) = some (.int .u8 (Z.getD c 0))) : (Z.take L).length = L ∧ HoldsB W A (Z.take L) := by
  have hlen : (Z.take L).length = L := by simp; omega
  refine ⟨hlen, fun z hz2 => byt_of_wf (hwz z (List.mem_of_mem_take hz2)), ?_⟩
  by_cases hL : L = 0
  · left; subst hL; simp
  · right
    match A, h0, hc with
    | none, h0, _ => exact absurd (h0 rfl) (by omega)
    | some ⟨b, off, spot⟩, _, hc =>
      have hcell := hc _ rfl
      have h1 := hcell 0 (by omega)
      have hspot : spot = none := by simpa [Addr.add] using World.cell?_spot h1
      subst hspot
      have hlt : b < W.heap.size := by
        rcases Nat.lt_or_ge b W.heap.size with h' | h'
        · exact h'
        · simp [Addr.add, World.cell?, Array.getElem?_eq_none h'] at h1
      refine ⟨b, off, rfl, hlt, fun i hi => ?_⟩
      rw [hlen] at hi
      have := hcell i (by omega)
      rw [Addr.add_lit] at this
      rw [this]
      simp [hi]

set_option maxRecDepth 100000 in
theorem rows_in {H : Type} {enc : TypeId × Value → H} {W : World} {x : DataW H × List MemPlace} {fuel : Nat} {v : Value} (hval : Value.okWide Tryd.prog W .any 0 31 v)
    (h : DataW.trod enc Tryd.prog W 0 (fun _ => true) true fuel 31 v.cells.toList = some x) : ∃ a zss c, v = .slice a zss.length c ∧ zss.length ≤ c ∧ c ≤ maxLen ∧ HoldsBB W a zss := by
  obtain ⟨a0, len, cap, rfl⟩ := okWide_slice Tryd.underlying31 hval
  rcases open_int_rows Tryd.underlying31 Tryd.underlying22 Tryd.underlying5 (by kernel_rfl) (by kernel_rfl) h with ⟨hcs, _⟩ | ⟨y, l, c, A, L, C, Z, hcs, _, hl, hm, _, hr⟩
  · simp [Value.cells] at hcs
    obtain ⟨rfl, rfl, rfl⟩ := hcs
    exact ⟨none, [], 0, rfl, Nat.le_refl _, Nat.zero_le _, by simp, Or.inl rfl⟩
  · simp [Value.cells] at hcs
    obtain ⟨rfl, rfl, rfl⟩ := hcs
    have hh : ∀ r, r < len → ((Z r).take (L r)).length = L r ∧ HoldsB W (A r) ((Z r).take (L r)) := fun r hlt => by
      obtain ⟨_, q1, _, q3, q4, q5, q6⟩ := hr r (by omega)
      exact row_holds q1 q3 q4 q5 (fun a' ha c hc => (q6 a' ha).2 c hc)
    refine ⟨some y, (List.range len).map fun r => (A r, (Z r).take (L r), C r), cap, by simp, by simpa using hl, hm, ?_, ?_⟩
    · intro r hmem
      obtain ⟨i, hi, rfl⟩ := List.mem_map.1 hmem
      have hi' := List.mem_range.1 hi
      obtain ⟨_, q1, q2, _, _, _, _⟩ := hr i (by omega)
      obtain ⟨h1, h2⟩ := hh i hi'
      exact ⟨by show ((Z i).take (L i)).length ≤ C i; omega, q2, h2⟩
    · by_cases h0 : len = 0
      · left; subst h0; rfl
      · right
        obtain ⟨b, off, spot⟩ := y
        have hc := (hr 0 (by omega)).1
        have hspot : spot = none := by simpa [Addr.add] using World.cell?_spot hc
        subst hspot
        have hlt : b < W.heap.size := by
          rcases Nat.lt_or_ge b W.heap.size with h' | h'
          · exact h'
          · simp [Addr.add, World.cell?, Array.getElem?_eq_none h'] at hc
        refine ⟨b, off, rfl, hlt, fun i r hir => ?_⟩
        rw [List.getElem?_map] at hir
        obtain ⟨k, hk, rfl⟩ := Option.map_eq_some_iff.1 hir
        have hk' := List.getElem?_eq_some_iff.1 hk
        obtain ⟨hk1, hk2⟩ := hk'
        have hil : i < len := by simpa using hk1
        have hik : k = i := by rw [← hk2]; simp
        subst hik
        have := (hr k (by omega)).1
        rw [Addr.add_lit] at this
        rw [this]
        show _ = some (Value.slice (A k) ((Z k).take (L k)).length (C k))
        rw [(hh k hil).1]

theorem laid_peel {W : World} {n : String} {d : DataW Unit} {vs : List (String × DataW Unit)} {ps : List MemPlace} (h : DataW.LaidVars Tryd.prog W ((n, d) :: vs) ps) : ∃ p q, DataW.LaidVars Tryd.prog W vs q ∧ ps = p ++ q := by
  obtain ⟨_, _, _, _, p, q, _, _, _, _, hq, e⟩ := h
  exact ⟨_, q, hq, e⟩

/-- The condition of the rows that list eight variables: the three of netip. -/
theorem net_of_laid8 {W : World} (h : laidMetH Tryd.prog Rows.fnOrderRow.laid W) : ∃ p4 p6, Net p4 p6 W := by
  rw [MakeChecks.laidMetH_plain _ _ _ (by kernel_rfl)] at h
  obtain ⟨ps, hv, hn, hc⟩ := h
  obtain ⟨p1, q1, v1, rfl⟩ := laid_peel hv
  obtain ⟨p2, q2, v2, rfl⟩ := laid_peel v1
  obtain ⟨p3, q3, v3, rfl⟩ := laid_peel v2
  obtain ⟨p5, q5, v5, rfl⟩ := laid_peel v3
  obtain ⟨p7, q7, v7, rfl⟩ := laid_peel v5
  refine net_of_vars v7 ?_ (fun b off hm => (hc b off (by simp [hm])).1)
  exact (List.nodup_append.1 (List.nodup_append.1 (List.nodup_append.1 (List.nodup_append.1 (List.nodup_append.1 hn).2.1).2.1).2.1).2.1).2.1
end Go.Proofs.YtbejikpopealdaaDoor
