/-
  spec.Table, walked: the nine rows in new memory.
-/
import Derived.Test.YtbejikpopealdaaDoorQSpecD
namespace Go.Proofs.YtbejikpopealdaaDoor
open Go.RowKit

/-- The rows of RFC 6724's table: the sixteen bytes, the bits, precedence and label. -/
def sRow : Nat → List Int
  | 0 => padL [0, 0, 0, 0, 0, 0, 0, 0, 0, 0, 0, 0, 0, 0, 0, 1]
  | 1 => padL []
  | 2 => padL [0, 0, 0, 0, 0, 0, 0, 0, 0, 0, 255, 255]
  | 3 => padL [32, 2]
  | 4 => padL [32, 1, 0, 0]
  | 5 => padL [252]
  | 6 => padL []
  | 7 => padL [254, 192]
  | _ => padL [63, 254]
def sBits : Nat → Nat
  | 0 => 128
  | 1 => 0
  | 2 => 96
  | 3 => 16
  | 4 => 32
  | 5 => 7
  | 6 => 96
  | 7 => 10
  | _ => 16
def sPrec : Nat → Int
  | 0 => 50
  | 1 => 40
  | 2 => 35
  | 3 => 30
  | 4 => 5
  | 5 => 3
  | 6 => 1
  | 7 => 1
  | _ => 1
def sLab : Nat → Int
  | 0 => 0
  | 1 => 1
  | 2 => 4
  | 3 => 2
  | 4 => 5
  | 5 => 13
  | 6 => 3
  | 7 => 11
  | _ => 12

theorem litB (w : World) (xs : List Int) (e : TypeId) (hx : decide (∀ z ∈ xs, 0 ≤ z ∧ z < 256) = true) : HoldsB (w.alloc (.cells (xs.map (Value.int .u8)).toArray e)) (some ⟨w.heap.size, 0, none⟩) xs := by
  refine ⟨fun z hz => by unfold Byt; exact of_decide_eq_true hx z hz, Or.inr ⟨_, _, rfl, by simp [go_sem], fun i hi => ?_⟩⟩
  rw [Nat.zero_add]
  refine (World.cell?_alloc_new w _ _ i).trans ?_
  simp [List.getD_eq_getElem?_getD, hi]

/-- One row of the table in memory. -/
def SRowIs (w : World) (b j : Nat) : Prop :=
  ∃ a c, 16 ≤ c ∧ HoldsB w a (sRow j) ∧ w.cell? ⟨b, j * 4, none⟩ = some (.slice a 16 c) ∧ w.cell? ⟨b, j * 4 + 1, none⟩ = some (.int .i64 (sBits j : Nat)) ∧ w.cell? ⟨b, j * 4 + 2, none⟩ = some (.int .i64 (sPrec j)) ∧ w.cell? ⟨b, j * 4 + 3, none⟩ = some (.int .i64 (sLab j))
theorem SRowIs.gr {w w' : World} {b j : Nat} (h : SRowIs w b j) (hb : b < w.heap.size) (g : Gr w w') : SRowIs w' b j := by
  obtain ⟨a, c, h1, h2, h3, h4, h5, h6⟩ := h
  exact ⟨a, c, h1, h2.gr g, g.cell hb h3, g.cell hb h4, g.cell hb h5, g.cell hb h6⟩
/-- What Table leaves. -/
def TableEnd (w : World) (e : Ending) (w' : World) : Prop :=
  ∃ b, e = .returned (.slice (some ⟨b, 0, none⟩) 9 9) ∧ Gr w w' ∧ b < w'.heap.size ∧ ∀ j, j < 9 → SRowIs w' b j

set_option maxHeartbeats 4000000 in
set_option maxRecDepth 100000 in
theorem specTable (w : World) : Calls Tryd.prog 32 #[] w (TableEnd w) := by
  go_enter Tryd.func32, Tryd.ntmps32
  go_wp2_with fail
  refine (pad_16 _ [0, 0, 0, 0, 0, 0, 0, 0, 0, 0, 0, 0, 0, 0, 0, 1] rfl _ (litB _ _ _ (by decide))).mono ?_
  rintro e w1 ⟨a1, c1, rfl, hc1, hh, hg⟩
  have HS : Hid (Gr w w1) := ((Gr.refl w).alloc _).trans hg
  have HG1 : Hid (Gr w w1) := (Gr.refl w).trans HS.out
  have HH1 := Lib.hid hh
  have HC1 := Lib.hid hc1
  clear hh hg HS hc1
  go_wp2_with fail
  refine (pad_nil _).mono ?_
  rintro e w2 ⟨a2, c2, rfl, hc2, hh, hg⟩
  have HS : Hid (Gr w1 w2) := (Gr.refl w1).trans hg
  have HG2 : Hid (Gr w w2) := HG1.out.trans HS.out
  replace HH1 := Lib.hid (HH1.out.gr HS.out)
  have HH2 := Lib.hid hh
  have HC2 := Lib.hid hc2
  clear hh hg HS hc2
  go_wp2_with fail
  refine (pad_any _ [0, 0, 0, 0, 0, 0, 0, 0, 0, 0, 255, 255] 12 rfl (by decide) (by decide) _ (litB _ _ _ (by decide))).mono ?_
  rintro e w3 ⟨a3, c3, rfl, hc3, hh, hg⟩
  have HS : Hid (Gr w2 w3) := ((Gr.refl w2).alloc _).trans hg
  have HG3 : Hid (Gr w w3) := HG2.out.trans HS.out
  replace HH1 := Lib.hid (HH1.out.gr HS.out)
  replace HH2 := Lib.hid (HH2.out.gr HS.out)
  have HH3 := Lib.hid hh
  have HC3 := Lib.hid hc3
  clear hh hg HS hc3
  go_wp2_with fail
  refine (pad_any _ [32, 2] 2 rfl (by decide) (by decide) _ (litB _ _ _ (by decide))).mono ?_
  rintro e w4 ⟨a4, c4, rfl, hc4, hh, hg⟩
  have HS : Hid (Gr w3 w4) := ((Gr.refl w3).alloc _).trans hg
  have HG4 : Hid (Gr w w4) := HG3.out.trans HS.out
  replace HH1 := Lib.hid (HH1.out.gr HS.out)
  replace HH2 := Lib.hid (HH2.out.gr HS.out)
  replace HH3 := Lib.hid (HH3.out.gr HS.out)
  have HH4 := Lib.hid hh
  have HC4 := Lib.hid hc4
  clear hh hg HS hc4
  go_wp2_with fail
  refine (pad_any _ [32, 1, 0, 0] 4 rfl (by decide) (by decide) _ (litB _ _ _ (by decide))).mono ?_
  rintro e w5 ⟨a5, c5, rfl, hc5, hh, hg⟩
  have HS : Hid (Gr w4 w5) := ((Gr.refl w4).alloc _).trans hg
  have HG5 : Hid (Gr w w5) := HG4.out.trans HS.out
  replace HH1 := Lib.hid (HH1.out.gr HS.out)
  replace HH2 := Lib.hid (HH2.out.gr HS.out)
  replace HH3 := Lib.hid (HH3.out.gr HS.out)
  replace HH4 := Lib.hid (HH4.out.gr HS.out)
  have HH5 := Lib.hid hh
  have HC5 := Lib.hid hc5
  clear hh hg HS hc5
  go_wp2_with fail
  refine (pad_any _ [252] 1 rfl (by decide) (by decide) _ (litB _ _ _ (by decide))).mono ?_
  rintro e w6 ⟨a6, c6, rfl, hc6, hh, hg⟩
  have HS : Hid (Gr w5 w6) := ((Gr.refl w5).alloc _).trans hg
  have HG6 : Hid (Gr w w6) := HG5.out.trans HS.out
  replace HH1 := Lib.hid (HH1.out.gr HS.out)
  replace HH2 := Lib.hid (HH2.out.gr HS.out)
  replace HH3 := Lib.hid (HH3.out.gr HS.out)
  replace HH4 := Lib.hid (HH4.out.gr HS.out)
  replace HH5 := Lib.hid (HH5.out.gr HS.out)
  have HH6 := Lib.hid hh
  have HC6 := Lib.hid hc6
  clear hh hg HS hc6
  go_wp2_with fail
  refine (pad_nil _).mono ?_
  rintro e w7 ⟨a7, c7, rfl, hc7, hh, hg⟩
  have HS : Hid (Gr w6 w7) := (Gr.refl w6).trans hg
  have HG7 : Hid (Gr w w7) := HG6.out.trans HS.out
  replace HH1 := Lib.hid (HH1.out.gr HS.out)
  replace HH2 := Lib.hid (HH2.out.gr HS.out)
  replace HH3 := Lib.hid (HH3.out.gr HS.out)
  replace HH4 := Lib.hid (HH4.out.gr HS.out)
  replace HH5 := Lib.hid (HH5.out.gr HS.out)
  replace HH6 := Lib.hid (HH6.out.gr HS.out)
  have HH7 := Lib.hid hh
  have HC7 := Lib.hid hc7
  clear hh hg HS hc7
  go_wp2_with fail
  refine (pad_any _ [254, 192] 2 rfl (by decide) (by decide) _ (litB _ _ _ (by decide))).mono ?_
  rintro e w8 ⟨a8, c8, rfl, hc8, hh, hg⟩
  have HS : Hid (Gr w7 w8) := ((Gr.refl w7).alloc _).trans hg
  have HG8 : Hid (Gr w w8) := HG7.out.trans HS.out
  replace HH1 := Lib.hid (HH1.out.gr HS.out)
  replace HH2 := Lib.hid (HH2.out.gr HS.out)
  replace HH3 := Lib.hid (HH3.out.gr HS.out)
  replace HH4 := Lib.hid (HH4.out.gr HS.out)
  replace HH5 := Lib.hid (HH5.out.gr HS.out)
  replace HH6 := Lib.hid (HH6.out.gr HS.out)
  replace HH7 := Lib.hid (HH7.out.gr HS.out)
  have HH8 := Lib.hid hh
  have HC8 := Lib.hid hc8
  clear hh hg HS hc8
  go_wp2_with fail
  refine (pad_any _ [63, 254] 2 rfl (by decide) (by decide) _ (litB _ _ _ (by decide))).mono ?_
  rintro e w9 ⟨a9, c9, rfl, hc9, hh, hg⟩
  have HS : Hid (Gr w8 w9) := ((Gr.refl w8).alloc _).trans hg
  have HG9 : Hid (Gr w w9) := HG8.out.trans HS.out
  replace HH1 := Lib.hid (HH1.out.gr HS.out)
  replace HH2 := Lib.hid (HH2.out.gr HS.out)
  replace HH3 := Lib.hid (HH3.out.gr HS.out)
  replace HH4 := Lib.hid (HH4.out.gr HS.out)
  replace HH5 := Lib.hid (HH5.out.gr HS.out)
  replace HH6 := Lib.hid (HH6.out.gr HS.out)
  replace HH7 := Lib.hid (HH7.out.gr HS.out)
  replace HH8 := Lib.hid (HH8.out.gr HS.out)
  have HH9 := Lib.hid hh
  have HC9 := Lib.hid hc9
  clear hh hg HS hc9
  go_wp2_with fail
  go_ret
  refine ⟨w9.heap.size, rfl, HG9.out.alloc _, by simp [go_sem], fun j hj => ?_⟩
  have st := (Gr.refl w9).alloc (.cells #[.slice a1 16 c1, .int .i64 128, .int .i64 50, .int .i64 0, .slice a2 16 c2, .int .i64 0, .int .i64 40, .int .i64 1, .slice a3 16 c3, .int .i64 96, .int .i64 35, .int .i64 4, .slice a4 16 c4, .int .i64 16, .int .i64 30, .int .i64 2, .slice a5 16 c5, .int .i64 32, .int .i64 5, .int .i64 5, .slice a6 16 c6, .int .i64 7, .int .i64 3, .int .i64 13, .slice a7 16 c7, .int .i64 96, .int .i64 1, .int .i64 3, .slice a8 16 c8, .int .i64 10, .int .i64 1, .int .i64 11, .slice a9 16 c9, .int .i64 16, .int .i64 1, .int .i64 12] 45)
  match j, hj with
  | 0, _ => exact ⟨a1, c1, HC1.out, HH1.out.gr st, World.cell?_alloc_new w9 _ _ 0, World.cell?_alloc_new w9 _ _ 1, World.cell?_alloc_new w9 _ _ 2, World.cell?_alloc_new w9 _ _ 3⟩
  | 1, _ => exact ⟨a2, c2, HC2.out, HH2.out.gr st, World.cell?_alloc_new w9 _ _ 4, World.cell?_alloc_new w9 _ _ 5, World.cell?_alloc_new w9 _ _ 6, World.cell?_alloc_new w9 _ _ 7⟩
  | 2, _ => exact ⟨a3, c3, HC3.out, HH3.out.gr st, World.cell?_alloc_new w9 _ _ 8, World.cell?_alloc_new w9 _ _ 9, World.cell?_alloc_new w9 _ _ 10, World.cell?_alloc_new w9 _ _ 11⟩
  | 3, _ => exact ⟨a4, c4, HC4.out, HH4.out.gr st, World.cell?_alloc_new w9 _ _ 12, World.cell?_alloc_new w9 _ _ 13, World.cell?_alloc_new w9 _ _ 14, World.cell?_alloc_new w9 _ _ 15⟩
  | 4, _ => exact ⟨a5, c5, HC5.out, HH5.out.gr st, World.cell?_alloc_new w9 _ _ 16, World.cell?_alloc_new w9 _ _ 17, World.cell?_alloc_new w9 _ _ 18, World.cell?_alloc_new w9 _ _ 19⟩
  | 5, _ => exact ⟨a6, c6, HC6.out, HH6.out.gr st, World.cell?_alloc_new w9 _ _ 20, World.cell?_alloc_new w9 _ _ 21, World.cell?_alloc_new w9 _ _ 22, World.cell?_alloc_new w9 _ _ 23⟩
  | 6, _ => exact ⟨a7, c7, HC7.out, HH7.out.gr st, World.cell?_alloc_new w9 _ _ 24, World.cell?_alloc_new w9 _ _ 25, World.cell?_alloc_new w9 _ _ 26, World.cell?_alloc_new w9 _ _ 27⟩
  | 7, _ => exact ⟨a8, c8, HC8.out, HH8.out.gr st, World.cell?_alloc_new w9 _ _ 28, World.cell?_alloc_new w9 _ _ 29, World.cell?_alloc_new w9 _ _ 30, World.cell?_alloc_new w9 _ _ 31⟩
  | 8, _ => exact ⟨a9, c9, HC9.out, HH9.out.gr st, World.cell?_alloc_new w9 _ _ 32, World.cell?_alloc_new w9 _ _ 33, World.cell?_alloc_new w9 _ _ 34, World.cell?_alloc_new w9 _ _ 35⟩
  | n + 9, h => omega
end Go.Proofs.YtbejikpopealdaaDoor
