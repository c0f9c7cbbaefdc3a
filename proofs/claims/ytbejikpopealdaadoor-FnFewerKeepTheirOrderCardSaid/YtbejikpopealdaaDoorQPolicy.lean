/-
  addrselect's ZZPolicy and impl.Policy, walked.
-/
import Derived.Test.YtbejikpopealdaaDoorQNetM
import Derived.Test.YtbejikpopealdaaDoorQScope
import Derived.BigQuiet
import Derived.Deep.DeepCutAuto
namespace Go.Proofs.YtbejikpopealdaaDoor
open Go.RowKit

theorem tab_bd (c : Nat) (hc : c < 9) : 0 ≤ tabP.getD c 0 ∧ tabP.getD c 0 < 256 ∧ 0 ≤ tabL.getD c 0 ∧ tabL.getD c 0 < 256 := by
  match c, hc with
  | 0, _ => decide
  | 1, _ => decide
  | 2, _ => decide
  | 3, _ => decide
  | 4, _ => decide
  | 5, _ => decide
  | 6, _ => decide
  | 7, _ => decide
  | 8, _ => decide
  | n + 9, h => omega

/-- The entry found. -/
def Found (hi lo tp tla : Int) : Prop := ∃ c, c < 9 ∧ hitB hi lo c = true ∧ (∀ j, j < c → hitB hi lo j = false) ∧ tp = tabP.getD c 0 ∧ tla = tabL.getD c 0
theorem Found.bd {hi lo tp tla : Int} (h : Found hi lo tp tla) : 0 ≤ tp ∧ tp < 256 ∧ 0 ≤ tla ∧ tla < 256 := by
  obtain ⟨c, hc, _, _, rfl, rfl⟩ := h
  exact tab_bd c hc
theorem cls_found {p6 : Addr} {hi lo : Int} {w w' : World} {e : Ending} (h : ClsEnd p6 hi lo w e w') :
    ∃ th tl tn tp tla : Int, Hid (Found hi lo tp tla) ∧ e = .returned (.agg #[.int .u64 th, .int .u64 tl, .pointer (some p6), .int .u8 tn, .int .u8 tp, .int .u8 tla]) ∧ Gr w w' := by
  obtain ⟨c, hc, hh, hn, rfl, hg⟩ := h
  exact ⟨_, _, _, _, _, ⟨c, hc, hh, hn, rfl, rfl⟩, rfl, hg⟩

/-- What ZZPolicy answers: precedence and label of the first entry that holds the address. -/
def PolEnd (hi lo : Int) (w : World) (e : Ending) (w' : World) : Prop :=
  ∃ tp tla : Int, Hid (Found hi lo tp tla) ∧ e = .returned (.tuple #[.int .i64 tp, .int .i64 tla]) ∧ Gr w w'

/-- Six stores into a block that lies there. -/
def sixW (w : World) (g : Nat) (v0 v1 v2 v3 v4 v5 : Value) : World := (((((w.setCell ⟨g, 0, none⟩ v0).setCell ⟨g, 1, none⟩ v1).setCell ⟨g, 2, none⟩ v2).setCell ⟨g, 3, none⟩ v3).setCell ⟨g, 4, none⟩ v4).setCell ⟨g, 5, none⟩ v5
theorem sixW_4 {w : World} {g : Nat} {v0 v1 v2 v3 v4 v5 u x : Value} (h : w.cell? ⟨g, 4, none⟩ = some u) (_h5 : w.cell? ⟨g, 5, none⟩ = some x) : (sixW w g v0 v1 v2 v3 v4 v5).cell? ⟨g, 4, none⟩ = some v4 := by
  unfold sixW
  simp [go_sem, h]
theorem sixW_5 {w : World} {g : Nat} {v0 v1 v2 v3 v4 v5 u x : Value} (_h : w.cell? ⟨g, 4, none⟩ = some u) (h5 : w.cell? ⟨g, 5, none⟩ = some x) : (sixW w g v0 v1 v2 v3 v4 v5).cell? ⟨g, 5, none⟩ = some v5 := by
  unfold sixW
  simp [go_sem, h5]
theorem sixW_gr {a w : World} {g : Nat} {v0 v1 v2 v3 v4 v5 : Value} (h : Gr a w) (hg : a.heap.size ≤ g) : Gr a (sixW w g v0 v1 v2 v3 v4 v5) :=
  (((((h.setCell hg _).setCell hg _).setCell hg _).setCell hg _).setCell hg _).setCell hg _

set_option maxHeartbeats 1000000 in
set_option maxRecDepth 100000 in
theorem zzPolicy (p4 p6 : Addr) (a : Option Addr) (zs : List Int) (c : Nat) (hl : zs.length = 4 ∨ zs.length = 16) (w : World) (N : Net p4 p6 w) (h : HoldsB w a zs) :
    Calls Tryd.prog 31 #[.slice a zs.length c] w (PolEnd (hiOf zs) (loOf zs) w) := by
  have FS := Lib.hid (fromSlice p4 p6 a zs c w N h)
  obtain ⟨b1, b2, b3, b4⟩ := halves_bd h.1
  have hs := famOf_some hl
  have TA := Lib.hid (fun W g => table_any p4 p6 W (N.gr (w' := W) g))
  have CL := Lib.hid (fun W g tb (TC : TabRows p6 tb W) => policy_any p4 p6 (famOf zs) hs (hiOf zs) (loOf zs) tb W (N.gr (w' := W) g) b1 b2 b3 b4 TC |>.mono fun _ _ h => cls_found h)
  generalize hiOf zs = hi at *
  generalize loOf zs = lo at *
  obtain ⟨n, hn⟩ : ∃ n, n = zs.length := ⟨_, rfl⟩
  obtain ⟨z, hz⟩ : ∃ z, z = zp p4 p6 (famOf zs) := ⟨_, rfl⟩
  rw [← hn] at FS ⊢
  rw [← hz] at FS CL
  clear N h b1 b2 b3 b4 hs hl hn hz
  go_enter Tryd.func31, Tryd.ntmps31
  go_wp2_with fail
  refine FS.out.mono ?_
  rintro e w1 ⟨rfl, hg⟩
  have hlt : w.heap.size ≤ w1.heap.size := hg.size
  have HG := Lib.hid hg
  clear hg
  go_upto_region 2 with fail
  go_cut [6] (fun s6 wx => ∃ (g : Nat) (tp tla : Int), Hid (Found hi lo tp tla) ∧ s6 = .pointer (some ⟨g, 0, none⟩) ∧ wx.cell? ⟨g, 4, none⟩ = some (.int .u8 tp) ∧ wx.cell? ⟨g, 5, none⟩ = some (.int .u8 tla) ∧ Gr w wx)
  case first =>
    go_region_with (first
      | (go_at_call 39; refine (TA.out _ (by repeat (first | exact HG.out | refine Gr.alloc ?_ _ | refine Gr.drew ?_))).mono ?_; rintro e w2 ⟨tb, rfl, hg, hb0, hb1, hcs⟩; obtain ⟨hc2, hf2⟩ := hg.cells; have hs2 : w1.heap.size < w2.heap.size := (by have := hg.size; (try simp [go_sem] at this); omega); (first | (have hq2 : w1.heap.size + 1 < w2.heap.size := (by have := hg.size; simp [go_sem] at this; omega)) | skip); have HT2 := Lib.hid (TabRows.of hb1 hcs); have HB2 : Hid (Gr w w2) := Gr.trans (by repeat (first | exact HG.out | refine Gr.alloc ?_ _ | refine Gr.drew ?_)) hg; clear hg hcs)
      | (go_at_call 40; refine (CL.out _ (by repeat (first | exact HB2.out | refine Gr.alloc ?_ _ | refine Gr.drew ?_)) _ (by first | exact HT2.out | exact HT2.out.gr (Gr.refl _).drew | exact HT2.out.gr ((Gr.refl _).alloc _) | exact HT2.out.gr ((Gr.refl _).drew.alloc _))).mono ?_; rintro e w3 ⟨th, tl, tn, tp, tla, HK, rfl, hg⟩; obtain ⟨hc3, hf3⟩ := hg.cells; have hs3 : w2.heap.size ≤ w3.heap.size := (by have := hg.size; (try simp [go_sem] at this); omega); (first | (have hq3 : w2.heap.size < w3.heap.size := (by have := hg.size; simp [go_sem] at this; omega)) | skip); obtain ⟨bd0, bd1, bd2, bd3⟩ := Found.bd HK.out; have HB3 : Hid (Gr w w3) := Gr.trans (by repeat (first | exact HB2.out | refine Gr.alloc ?_ _ | refine Gr.drew ?_)) hg; clear hg))
    all_goals (go_wp2_with fail; go_meet)
    · exact ⟨_, tp, tla, HK, rfl, by simp [go_sem], by simp [go_sem], HB3.out.alloc _⟩
    · have D4 : w3.cell? ⟨w2.heap.size, 4, none⟩ = some (.int .u8 0) := by (rw [hc3 _ _ (by simp [go_sem])]; simp [go_sem])
      have D5 : w3.cell? ⟨w2.heap.size, 5, none⟩ = some (.int .u8 0) := by (rw [hc3 _ _ (by simp [go_sem])]; simp [go_sem])
      exact ⟨_, tp, tla, HK, rfl, sixW_4 D4 D5, sixW_5 D4 D5, sixW_gr HB3.out (by omega)⟩
    · have D4 : w3.cell? ⟨w2.heap.size, 4, none⟩ = some (.int .u8 0) := by (rw [hc3 _ _ (by simp [go_sem])]; simp [go_sem])
      have D5 : w3.cell? ⟨w2.heap.size, 5, none⟩ = some (.int .u8 0) := by (rw [hc3 _ _ (by simp [go_sem])]; simp [go_sem])
      exact ⟨_, tp, tla, HK, rfl, sixW_4 D4 D5, sixW_5 D4 D5, sixW_gr HB3.out (by omega)⟩
    · exact ⟨_, tp, tla, HK, rfl, by simp [go_sem], by simp [go_sem], HB3.out.alloc _⟩
    · have D4 : w3.cell? ⟨w2.heap.size, 4, none⟩ = some (.int .u8 0) := by (rw [hc3 _ _ (by simp [go_sem])]; simp [go_sem])
      have D5 : w3.cell? ⟨w2.heap.size, 5, none⟩ = some (.int .u8 0) := by (rw [hc3 _ _ (by simp [go_sem])]; simp [go_sem])
      exact ⟨_, tp, tla, HK, rfl, sixW_4 D4 D5, sixW_5 D4 D5, sixW_gr HB3.out (by omega)⟩
    · have D4 : w3.cell? ⟨w1.heap.size + 1, 4, none⟩ = some (.int .u8 0) := by (rw [hc3 _ _ (by first | exact hq2 | simpa [go_sem] using hq2), hc2 _ _ (by simp [go_sem])]; simp [go_sem])
      have D5 : w3.cell? ⟨w1.heap.size + 1, 5, none⟩ = some (.int .u8 0) := by (rw [hc3 _ _ (by first | exact hq2 | simpa [go_sem] using hq2), hc2 _ _ (by simp [go_sem])]; simp [go_sem])
      exact ⟨_, tp, tla, HK, rfl, sixW_4 D4 D5, sixW_5 D4 D5, sixW_gr HB3.out (by omega)⟩
    · have D4 : w3.cell? ⟨w1.heap.size + 1, 4, none⟩ = some (.int .u8 0) := by (rw [hc3 _ _ (by first | exact hq2 | simpa [go_sem] using hq2), hc2 _ _ (by simp [go_sem])]; simp [go_sem])
      have D5 : w3.cell? ⟨w1.heap.size + 1, 5, none⟩ = some (.int .u8 0) := by (rw [hc3 _ _ (by first | exact hq2 | simpa [go_sem] using hq2), hc2 _ _ (by simp [go_sem])]; simp [go_sem])
      exact ⟨_, tp, tla, HK, rfl, sixW_4 D4 D5, sixW_5 D4 D5, sixW_gr HB3.out (by omega)⟩
    · have D4 : w3.cell? ⟨w1.heap.size + 1, 4, none⟩ = some (.int .u8 0) := by (rw [hc3 _ _ (by first | exact hq2 | simpa [go_sem] using hq2), hc2 _ _ (by simp [go_sem])]; simp [go_sem])
      have D5 : w3.cell? ⟨w1.heap.size + 1, 5, none⟩ = some (.int .u8 0) := by (rw [hc3 _ _ (by first | exact hq2 | simpa [go_sem] using hq2), hc2 _ _ (by simp [go_sem])]; simp [go_sem])
      exact ⟨_, tp, tla, HK, rfl, sixW_4 D4 D5, sixW_5 D4 D5, sixW_gr HB3.out (by omega)⟩
  case rest =>
    obtain ⟨g, tp, tla, HK, rfl, d4, d5, hg⟩ := hcut
    have HGz := Lib.hid hg
    obtain ⟨bd0, bd1, bd2, bd3⟩ := Found.bd HK.out
    clear hg
    go_wp2_with fail
    go_quiet (fail)
    go_wp2_with fail
    go_ret2
    exact ⟨tp, tla, HK, by first | rfl | simp, by first | exact HGz.out | exact HGz.out.drew | exact HGz.out.drewN _⟩
end Go.Proofs.YtbejikpopealdaaDoor
