/-
  ipAttrOf of the package, walked: scope, precedence and label of an address.
-/
import Derived.Test.YtbejikpopealdaaDoorQPolicy
namespace Go.Proofs.YtbejikpopealdaaDoor
open Go.RowKit

set_option maxHeartbeats 1000000 in
set_option maxRecDepth 100000 in
theorem ipAttr_none (p4 p6 : Addr) (hi lo : Int) (w : World) (N : Net p4 p6 w) :
    Calls Tryd.prog 59 #[.agg #[.int .u64 hi, .int .u64 lo, .pointer none]] w fun e w' => e = .returned (.agg #[.int .u8 0, .int .u8 0, .int .u8 0]) ∧ Gr w w' := by
  have I : Hid (∀ W, Gr w W → Calls Tryd.prog 82 #[.agg #[.int .u64 hi, .int .u64 lo, .pointer none]] W fun e w' => e = .returned (.bool false) ∧ Gr W w') := fun W g => isValid_any p4 p6 none hi lo W (N.gr (w' := W) g)
  clear N
  go_enter Tryd.func59, Tryd.ntmps59
  go_wp2_with fail
  refine (I.out _ (((Gr.refl w).alloc _).alloc _)).mono ?_
  rintro e w1 ⟨rfl, hg⟩
  obtain ⟨hc1, hf1⟩ := hg.cells
  have hl1 : w.heap.size + 1 < w1.heap.size := by have := hg.size; (try simp [go_sem] at this); omega
  have HG1 : Hid (Gr w w1) := (((Gr.refl w).alloc _).alloc _).trans hg
  clear hg
  go_wp2_with fail
  have hc := hc1
  exact bodyPost_ret (v := .agg #[.int .u8 0, .int .u8 0, .int .u8 0]) (by simp [results, Tryd.results59, go_sem, hc]) rfl ⟨rfl, ((HG1.out.setCell (by simp) _).setCell (by simp) _).setCell (by simp) _⟩

/-- What lies in a cell. -/
def cellOr (w : World) (b j : Nat) : Value := (w.cell? ⟨b, j, none⟩).getD undef
theorem cellOr_of {w : World} {b j : Nat} {v : Value} (h : w.cell? ⟨b, j, none⟩ = some v) : w.cell? ⟨b, j, none⟩ = some (cellOr w b j) := by
  unfold cellOr
  rw [h]
  rfl
theorem atS_step {w W W' : World} {bx g : Nat} {hi lo : Int} {z : Option Addr} {tp tla : Int}
    (h : Gr w W ∧ W.cell? ⟨bx, 0, none⟩ = some (.int .u64 hi) ∧ W.cell? ⟨bx, 1, none⟩ = some (.int .u64 lo) ∧ W.cell? ⟨bx, 2, none⟩ = some (.pointer z) ∧ W.cell? ⟨g, 4, none⟩ = some (.int .u8 tp) ∧ W.cell? ⟨g, 5, none⟩ = some (.int .u8 tla) ∧ W.cell? ⟨bx + 1, 0, none⟩ = some (cellOr W (bx + 1) 0) ∧ W.cell? ⟨bx + 1, 1, none⟩ = some (cellOr W (bx + 1) 1) ∧ W.cell? ⟨bx + 1, 2, none⟩ = some (cellOr W (bx + 1) 2) ∧ W.frozen? ⟨bx + 1, 0, none⟩ = false ∧ W.frozen? ⟨bx + 1, 1, none⟩ = false ∧ W.frozen? ⟨bx + 1, 2, none⟩ = false) (k : Gr W W') :
    Gr w W' ∧ W'.cell? ⟨bx, 0, none⟩ = some (.int .u64 hi) ∧ W'.cell? ⟨bx, 1, none⟩ = some (.int .u64 lo) ∧ W'.cell? ⟨bx, 2, none⟩ = some (.pointer z) ∧ W'.cell? ⟨g, 4, none⟩ = some (.int .u8 tp) ∧ W'.cell? ⟨g, 5, none⟩ = some (.int .u8 tla) ∧ W'.cell? ⟨bx + 1, 0, none⟩ = some (cellOr W' (bx + 1) 0) ∧ W'.cell? ⟨bx + 1, 1, none⟩ = some (cellOr W' (bx + 1) 1) ∧ W'.cell? ⟨bx + 1, 2, none⟩ = some (cellOr W' (bx + 1) 2) ∧ W'.frozen? ⟨bx + 1, 0, none⟩ = false ∧ W'.frozen? ⟨bx + 1, 1, none⟩ = false ∧ W'.frozen? ⟨bx + 1, 2, none⟩ = false := by
  obtain ⟨h, h0, h1, h2, h3, h4, h5, h6, h7, h8, h9, h10⟩ := h
  have s1 : bx + 1 < W.heap.size := World.block_lt_of_cell? _ _ h5
  have s0 : bx < W.heap.size := by omega
  have sg : g < W.heap.size := World.block_lt_of_cell? _ _ h3
  exact ⟨h.trans k, k.cell s0 h0, k.cell s0 h1, k.cell s0 h2, k.cell sg h3, k.cell sg h4, cellOr_of (k.cell s1 h5), cellOr_of (k.cell s1 h6), cellOr_of (k.cell s1 h7), k.frozen s1 h8, k.frozen s1 h9, k.frozen s1 h10⟩
theorem atS_store {w W : World} {bx g : Nat} {hi lo : Int} {z : Option Addr} {tp tla : Int} {a b c : Value} (hb : w.heap.size ≤ bx + 1)
    (h : Gr w W ∧ W.cell? ⟨bx, 0, none⟩ = some (.int .u64 hi) ∧ W.cell? ⟨bx, 1, none⟩ = some (.int .u64 lo) ∧ W.cell? ⟨bx, 2, none⟩ = some (.pointer z) ∧ W.cell? ⟨g, 4, none⟩ = some (.int .u8 tp) ∧ W.cell? ⟨g, 5, none⟩ = some (.int .u8 tla) ∧ W.cell? ⟨bx + 1, 0, none⟩ = some (cellOr W (bx + 1) 0) ∧ W.cell? ⟨bx + 1, 1, none⟩ = some (cellOr W (bx + 1) 1) ∧ W.cell? ⟨bx + 1, 2, none⟩ = some (cellOr W (bx + 1) 2) ∧ W.frozen? ⟨bx + 1, 0, none⟩ = false ∧ W.frozen? ⟨bx + 1, 1, none⟩ = false ∧ W.frozen? ⟨bx + 1, 2, none⟩ = false) :
    (fun W' : World => Gr w W' ∧ W'.cell? ⟨bx, 0, none⟩ = some (.int .u64 hi) ∧ W'.cell? ⟨bx, 1, none⟩ = some (.int .u64 lo) ∧ W'.cell? ⟨bx, 2, none⟩ = some (.pointer z) ∧ W'.cell? ⟨g, 4, none⟩ = some (.int .u8 tp) ∧ W'.cell? ⟨g, 5, none⟩ = some (.int .u8 tla) ∧ W'.cell? ⟨bx + 1, 0, none⟩ = some (cellOr W' (bx + 1) 0) ∧ W'.cell? ⟨bx + 1, 1, none⟩ = some (cellOr W' (bx + 1) 1) ∧ W'.cell? ⟨bx + 1, 2, none⟩ = some (cellOr W' (bx + 1) 2) ∧ W'.frozen? ⟨bx + 1, 0, none⟩ = false ∧ W'.frozen? ⟨bx + 1, 1, none⟩ = false ∧ W'.frozen? ⟨bx + 1, 2, none⟩ = false) (((W.setCell ⟨bx + 1, 0, none⟩ a).setCell ⟨bx + 1, 1, none⟩ b).setCell ⟨bx + 1, 2, none⟩ c) := by
  obtain ⟨h, h0, h1, h2, h3, h4, h5, h6, h7, h8, h9, h10⟩ := h
  refine ⟨((h.setCell hb _).setCell hb _).setCell hb _, by simp [go_sem, h0], by simp [go_sem, h1], by simp [go_sem, h2], by simp [go_sem, h3], by simp [go_sem, h4], cellOr_of (v := a) (by simp [go_sem, h5]), cellOr_of (v := b) (by simp [go_sem, h6]), cellOr_of (v := c) (by simp [go_sem, h7]), by simp [go_sem, h8], by simp [go_sem, h9], by simp [go_sem, h10]⟩

set_option maxHeartbeats 4000000 in
set_option maxRecDepth 100000 in
theorem ipAttr_some (p4 p6 : Addr) (k : Option Bool) (hk : k.isSome = true) (hi lo : Int) (b1 : 0 ≤ hi) (b2 : hi < 18446744073709551616) (b3 : 0 ≤ lo) (b4 : lo < 18446744073709551616) (w : World) (N : Net p4 p6 w) :
    Calls Tryd.prog 59 #[.agg #[.int .u64 hi, .int .u64 lo, .pointer (zp p4 p6 k)]] w fun e w' => (∃ tp tla : Int, Hid (Found hi lo tp tla) ∧ e = .returned (.agg #[.int .u8 (scopeV k hi lo), .int .u8 tp, .int .u8 tla])) ∧ Gr w w' := by
  have I := Lib.hid (fun W g => isValid_any p4 p6 k hi lo W (N.gr (w' := W) g))
  rw [hk] at I
  have TA := Lib.hid (fun W g => table_any p4 p6 W (N.gr (w' := W) g))
  have CL := Lib.hid (fun W g tb (TC : TabRows p6 tb W) => policy_any p4 p6 k hk hi lo tb W (N.gr (w' := W) g) b1 b2 b3 b4 TC |>.mono fun _ _ h => cls_found h)
  have SC := Lib.hid (fun W g => classify_any p4 p6 k hi lo W (N.gr (w' := W) g) b3 b4 b1 b2 hk)
  generalize scopeV k hi lo = sv at *
  obtain ⟨z, hz⟩ : ∃ z, z = zp p4 p6 k := ⟨_, rfl⟩
  rw [← hz] at I CL SC ⊢
  clear N b1 b2 b3 b4 hk hz
  go_enter Tryd.func59, Tryd.ntmps59
  go_wp2_with fail
  refine (I.out _ (((Gr.refl w).alloc _).alloc _)).mono ?_
  rintro e w1 ⟨rfl, hg⟩
  obtain ⟨hc1, hf1⟩ := hg.cells
  have hl1 : w.heap.size + 1 < w1.heap.size := by have := hg.size; (try simp [go_sem] at this); omega
  have hlt : w.heap.size < w1.heap.size := by omega
  have HG : Hid (Gr w w1) := (((Gr.refl w).alloc _).alloc _).trans hg
  have x0 : w1.cell? ⟨w.heap.size, 0, none⟩ = some (.int .u64 hi) := by rw [hc1 _ _ (by simp [go_sem]; try omega)]; simp [go_sem]
  have x1 : w1.cell? ⟨w.heap.size, 1, none⟩ = some (.int .u64 lo) := by rw [hc1 _ _ (by simp [go_sem]; try omega)]; simp [go_sem]
  have x2 : w1.cell? ⟨w.heap.size, 2, none⟩ = some (.pointer z) := by rw [hc1 _ _ (by simp [go_sem]; try omega)]; simp [go_sem]
  have r0 : w1.cell? ⟨w.heap.size + 1, 0, none⟩ = some (.int .u8 0) := by rw [hc1 _ _ (by simp [go_sem])]; simp [go_sem]
  have r1 : w1.cell? ⟨w.heap.size + 1, 1, none⟩ = some (.int .u8 0) := by rw [hc1 _ _ (by simp [go_sem])]; simp [go_sem]
  have r2 : w1.cell? ⟨w.heap.size + 1, 2, none⟩ = some (.int .u8 0) := by rw [hc1 _ _ (by simp [go_sem])]; simp [go_sem]
  have f1 : ∀ j, w1.frozen? ⟨w.heap.size + 1, j, none⟩ = false := by intro j; rw [hf1 _ _ (by simp [go_sem])]; simp [go_sem]
  have RR := Lib.hid (And.intro r0 (And.intro r1 (And.intro r2 f1)))
  have BB := Lib.hid (And.intro x0 (And.intro x1 x2))
  clear hg hc1 hf1 r0 r1 r2 f1
  go_upto_region 3 with fail
  go_cut [3] (fun s3 wx => ∃ (g : Nat) (tp tla : Int), Hid (Found hi lo tp tla) ∧ s3 = .pointer (some ⟨g, 0, none⟩) ∧ g ≠ w.heap.size + 1 ∧ wx.cell? ⟨g, 4, none⟩ = some (.int .u8 tp) ∧ wx.cell? ⟨g, 5, none⟩ = some (.int .u8 tla) ∧ Gr w1 wx)
  case first =>
    go_region_with (first
      | (go_at_call 39; refine (TA.out _ (by repeat (first | exact HG.out | refine Gr.alloc ?_ _ | refine Gr.drew ?_))).mono ?_; rintro e w2 ⟨tb, rfl, hg, hb0, hb1, hcs⟩; obtain ⟨hc2, hf2⟩ := hg.cells; have hs2 : w1.heap.size ≤ w2.heap.size := (by have := hg.size; (try simp [go_sem] at this); omega); (first | (have hq2 : w1.heap.size < w2.heap.size := (by have := hg.size; simp [go_sem] at this; omega)) | skip); have HT2 := Lib.hid (TabRows.of hb1 hcs); have HB2 : Hid (Gr w1 w2) := Gr.trans (by repeat (first | exact Gr.refl w1 | refine Gr.alloc ?_ _ | refine Gr.drew ?_)) hg; have hlt2 : w.heap.size < w2.heap.size := (by omega); have y0 := HB2.out.cell (p := ⟨w.heap.size, 0, none⟩) hlt x0; have y1 := HB2.out.cell (p := ⟨w.heap.size, 1, none⟩) hlt x1; have y2 := HB2.out.cell (p := ⟨w.heap.size, 2, none⟩) hlt x2; clear hg hcs)
      | (go_at_call 40; refine (CL.out _ (by repeat (first | exact HG.out.trans HB2.out | refine Gr.alloc ?_ _ | refine Gr.drew ?_)) _ (by first | exact HT2.out | exact HT2.out.gr (Gr.refl _).drew | exact HT2.out.gr ((Gr.refl _).alloc _) | exact HT2.out.gr ((Gr.refl _).drew.alloc _))).mono ?_; rintro e w3 ⟨th, tl, tn, tp, tla, HK, rfl, hg⟩; obtain ⟨hc3, hf3⟩ := hg.cells; have hs3 : w2.heap.size ≤ w3.heap.size := (by have := hg.size; (try simp [go_sem] at this); omega); (first | (have hq3 : w2.heap.size < w3.heap.size := (by have := hg.size; simp [go_sem] at this; omega)) | skip); obtain ⟨bd0, bd1, bd2, bd3⟩ := Found.bd HK.out; have HB3 : Hid (Gr w1 w3) := Gr.trans (by repeat (first | exact HB2.out | refine Gr.alloc ?_ _ | refine Gr.drew ?_)) hg; clear hg))
    all_goals (go_wp2_with fail; go_meet)
    · exact ⟨_, tp, tla, HK, rfl, by omega, by simp [go_sem], by simp [go_sem], HB3.out.alloc _⟩
    · have D4 : w3.cell? ⟨w2.heap.size, 4, none⟩ = some (.int .u8 0) := by (rw [hc3 _ _ (by simp [go_sem])]; simp [go_sem])
      have D5 : w3.cell? ⟨w2.heap.size, 5, none⟩ = some (.int .u8 0) := by (rw [hc3 _ _ (by simp [go_sem])]; simp [go_sem])
      exact ⟨_, tp, tla, HK, rfl, by omega, sixW_4 D4 D5, sixW_5 D4 D5, sixW_gr HB3.out (by omega)⟩
    · have D4 : w3.cell? ⟨w2.heap.size, 4, none⟩ = some (.int .u8 0) := by (rw [hc3 _ _ (by simp [go_sem])]; simp [go_sem])
      have D5 : w3.cell? ⟨w2.heap.size, 5, none⟩ = some (.int .u8 0) := by (rw [hc3 _ _ (by simp [go_sem])]; simp [go_sem])
      exact ⟨_, tp, tla, HK, rfl, by omega, sixW_4 D4 D5, sixW_5 D4 D5, sixW_gr HB3.out (by omega)⟩
    · exact ⟨_, tp, tla, HK, rfl, by omega, by simp [go_sem], by simp [go_sem], HB3.out.alloc _⟩
    · have D4 : w3.cell? ⟨w2.heap.size, 4, none⟩ = some (.int .u8 0) := by (rw [hc3 _ _ (by simp [go_sem])]; simp [go_sem])
      have D5 : w3.cell? ⟨w2.heap.size, 5, none⟩ = some (.int .u8 0) := by (rw [hc3 _ _ (by simp [go_sem])]; simp [go_sem])
      exact ⟨_, tp, tla, HK, rfl, by omega, sixW_4 D4 D5, sixW_5 D4 D5, sixW_gr HB3.out (by omega)⟩
    · have D4 : w3.cell? ⟨w1.heap.size, 4, none⟩ = some (.int .u8 0) := by (rw [hc3 _ _ (by first | exact hq2 | simpa [go_sem] using hq2), hc2 _ _ (by simp [go_sem])]; simp [go_sem])
      have D5 : w3.cell? ⟨w1.heap.size, 5, none⟩ = some (.int .u8 0) := by (rw [hc3 _ _ (by first | exact hq2 | simpa [go_sem] using hq2), hc2 _ _ (by simp [go_sem])]; simp [go_sem])
      exact ⟨_, tp, tla, HK, rfl, by omega, sixW_4 D4 D5, sixW_5 D4 D5, sixW_gr HB3.out (by omega)⟩
    · have D4 : w3.cell? ⟨w1.heap.size, 4, none⟩ = some (.int .u8 0) := by (rw [hc3 _ _ (by first | exact hq2 | simpa [go_sem] using hq2), hc2 _ _ (by simp [go_sem])]; simp [go_sem])
      have D5 : w3.cell? ⟨w1.heap.size, 5, none⟩ = some (.int .u8 0) := by (rw [hc3 _ _ (by first | exact hq2 | simpa [go_sem] using hq2), hc2 _ _ (by simp [go_sem])]; simp [go_sem])
      exact ⟨_, tp, tla, HK, rfl, by omega, sixW_4 D4 D5, sixW_5 D4 D5, sixW_gr HB3.out (by omega)⟩
    · have D4 : w3.cell? ⟨w1.heap.size, 4, none⟩ = some (.int .u8 0) := by (rw [hc3 _ _ (by first | exact hq2 | simpa [go_sem] using hq2), hc2 _ _ (by simp [go_sem])]; simp [go_sem])
      have D5 : w3.cell? ⟨w1.heap.size, 5, none⟩ = some (.int .u8 0) := by (rw [hc3 _ _ (by first | exact hq2 | simpa [go_sem] using hq2), hc2 _ _ (by simp [go_sem])]; simp [go_sem])
      exact ⟨_, tp, tla, HK, rfl, by omega, sixW_4 D4 D5, sixW_5 D4 D5, sixW_gr HB3.out (by omega)⟩
  case rest =>
    obtain ⟨g, tp, tla, HK, rfl, hgn, d4, d5, hg⟩ := hcut
    have hgl : g < wc.heap.size := World.block_lt_of_cell? _ _ d4
    obtain ⟨bd0, bd1, bd2, bd3⟩ := Found.bd HK.out
    have GZ := Lib.hid (HG.out.trans hg)
    have hbz : w.heap.size + 1 < wc.heap.size := Nat.lt_of_lt_of_le hl1 hg.size
    have x0 := hg.cell (p := ⟨w.heap.size, 0, none⟩) hlt BB.out.1
    have x1 := hg.cell (p := ⟨w.heap.size, 1, none⟩) hlt BB.out.2.1
    have x2 := hg.cell (p := ⟨w.heap.size, 2, none⟩) hlt BB.out.2.2
    have r0 := hg.cell (p := ⟨w.heap.size + 1, 0, none⟩) hl1 RR.out.1
    have r1 := hg.cell (p := ⟨w.heap.size + 1, 1, none⟩) hl1 RR.out.2.1
    have r2 := hg.cell (p := ⟨w.heap.size + 1, 2, none⟩) hl1 RR.out.2.2.1
    have f0 := hg.frozen (p := ⟨w.heap.size + 1, 0, none⟩) hl1 (RR.out.2.2.2 0)
    have f1 := hg.frozen (p := ⟨w.heap.size + 1, 1, none⟩) hl1 (RR.out.2.2.2 1)
    have f2 := hg.frozen (p := ⟨w.heap.size + 1, 2, none⟩) hl1 (RR.out.2.2.2 2)
    have gr0 : Gr w wc := GZ.out
    replace r0 := cellOr_of r0
    replace r1 := cellOr_of r1
    replace r2 := cellOr_of r2
    clear hg
    go_wp2_with fail
    go_region_held3 (fun w' => Gr w w' ∧ w'.cell? ⟨w.heap.size, 0, none⟩ = some (.int .u64 hi) ∧ w'.cell? ⟨w.heap.size, 1, none⟩ = some (.int .u64 lo) ∧ w'.cell? ⟨w.heap.size, 2, none⟩ = some (.pointer z) ∧ w'.cell? ⟨g, 4, none⟩ = some (.int .u8 tp) ∧ w'.cell? ⟨g, 5, none⟩ = some (.int .u8 tla) ∧ w'.cell? ⟨w.heap.size + 1, 0, none⟩ = some (cellOr w' (w.heap.size + 1) 0) ∧ w'.cell? ⟨w.heap.size + 1, 1, none⟩ = some (cellOr w' (w.heap.size + 1) 1) ∧ w'.cell? ⟨w.heap.size + 1, 2, none⟩ = some (cellOr w' (w.heap.size + 1) 2) ∧ w'.frozen? ⟨w.heap.size + 1, 0, none⟩ = false ∧ w'.frozen? ⟨w.heap.size + 1, 1, none⟩ = false ∧ w'.frozen? ⟨w.heap.size + 1, 2, none⟩ = false) (first | (exact ⟨by assumption, by assumption, by assumption, by assumption, by assumption, by assumption, by assumption, by assumption, by assumption, by assumption, by assumption, by assumption⟩) | (exact atS_step ⟨by assumption, by assumption, by assumption, by assumption, by assumption, by assumption, by assumption, by assumption, by assumption, by assumption, by assumption, by assumption⟩ (Gr.refl _).drew) | (exact atS_store (Nat.le_succ _) ⟨by assumption, by assumption, by assumption, by assumption, by assumption, by assumption, by assumption, by assumption, by assumption, by assumption, by assumption, by assumption⟩))
      (first
        | (go_at_call 38; refine (SC.out _ (by first | assumption | exact Gr.drew (by assumption))).mono ?_; rintro e w' ⟨rfl, hg'⟩; have hst := (by first | exact atS_step (w := w) (bx := w.heap.size) (g := g) (hi := hi) (lo := lo) (z := z) (tp := tp) (tla := tla) ⟨by assumption, by assumption, by assumption, by assumption, by assumption, by assumption, by assumption, by assumption, by assumption, by assumption, by assumption, by assumption⟩ hg' | exact atS_step (w := w) (bx := w.heap.size) (g := g) (hi := hi) (lo := lo) (z := z) (tp := tp) (tla := tla) ⟨by assumption, by assumption, by assumption, by assumption, by assumption, by assumption, by assumption, by assumption, by assumption, by assumption, by assumption, by assumption⟩ ((Gr.refl wc).drew.trans hg')); obtain ⟨k0, k1, k2, k3, k4, k5, k6, k7, k8, k9, k10, k11⟩ := hst))
    rename_i hS
    have hfin := hS.1
    clear hS
    go_wp2_with fail
    exact bodyPost_ret (v := .agg #[.int .u8 sv, .int .u8 tp, .int .u8 tla]) (by simp [results, Tryd.results59, go_sem, *]) rfl ⟨⟨tp, tla, HK, rfl⟩, hfin⟩
end Go.Proofs.YtbejikpopealdaaDoor
