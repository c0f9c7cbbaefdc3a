/-
  rfc6724policyTable of the package, walked: the nine entries in new memory.
-/
import Derived.Test.YtbejikpopealdaaDoorQNetK
namespace Go.Proofs.YtbejikpopealdaaDoor
open Go.RowKit

/-- The nine entries: the two halves of the prefix's address, its bits, precedence and label. -/
def tabHi : List Int := [0, 0, 0, 2306124484190404608, 2306405959167115264, 4611123068473966592, 18356672081162141696, 18158513697557839872, 0]
def tabLo : List Int := [1, 281470681743360, 0, 0, 0, 0, 0, 0, 0]
def tabN : List Nat := [128, 96, 96, 32, 16, 16, 10, 7, 0]
def tabP : List Int := [50, 35, 1, 5, 30, 1, 1, 3, 40]
def tabL : List Int := [0, 4, 3, 5, 2, 12, 11, 13, 1]
/-- The table's cells. -/
def tabCells (p6 : Addr) : List Value := [.int .u64 0, .int .u64 1, .pointer (some p6), .int .u8 129, .int .u8 50, .int .u8 0,
  .int .u64 0, .int .u64 281470681743360, .pointer (some p6), .int .u8 97, .int .u8 35, .int .u8 4,
  .int .u64 0, .int .u64 0, .pointer (some p6), .int .u8 97, .int .u8 1, .int .u8 3,
  .int .u64 2306124484190404608, .int .u64 0, .pointer (some p6), .int .u8 33, .int .u8 5, .int .u8 5,
  .int .u64 2306405959167115264, .int .u64 0, .pointer (some p6), .int .u8 17, .int .u8 30, .int .u8 2,
  .int .u64 4611123068473966592, .int .u64 0, .pointer (some p6), .int .u8 17, .int .u8 1, .int .u8 12,
  .int .u64 18356672081162141696, .int .u64 0, .pointer (some p6), .int .u8 11, .int .u8 1, .int .u8 11,
  .int .u64 18158513697557839872, .int .u64 0, .pointer (some p6), .int .u8 8, .int .u8 3, .int .u8 13,
  .int .u64 0, .int .u64 0, .pointer (some p6), .int .u8 1, .int .u8 40, .int .u8 1]

theorem byt_lit (x : Int) (h : decide (0 ≤ x ∧ x < 256) = true) : Byt x := by
  unfold Byt
  exact of_decide_eq_true h

theorem ent0 (p4 p6 : Addr) (w : World) (N : Net p4 p6 w) :
    Calls Tryd.prog 46 #[.agg #[.int .u8 0, .int .u8 0, .int .u8 0, .int .u8 0, .int .u8 0, .int .u8 0, .int .u8 0, .int .u8 0, .int .u8 0, .int .u8 0, .int .u8 0, .int .u8 0, .int .u8 0, .int .u8 0, .int .u8 0, .int .u8 1]] w fun e w' => e = .returned (.agg #[.int .u64 0, .int .u64 1, .pointer (some p6)]) ∧ Gr w w' := by
  have h := addrFrom16 p4 p6 0 0 0 0 0 0 0 0 0 0 0 0 0 0 0 1 (byt_lit _ rfl) (byt_lit _ rfl) (byt_lit _ rfl) (byt_lit _ rfl) (byt_lit _ rfl) (byt_lit _ rfl) (byt_lit _ rfl) (byt_lit _ rfl) (byt_lit _ rfl) (byt_lit _ rfl) (byt_lit _ rfl) (byt_lit _ rfl) (byt_lit _ rfl) (byt_lit _ rfl) (byt_lit _ rfl) (byt_lit _ rfl) w N
  exact h

theorem ent1 (p4 p6 : Addr) (w : World) (N : Net p4 p6 w) :
    Calls Tryd.prog 46 #[.agg #[.int .u8 0, .int .u8 0, .int .u8 0, .int .u8 0, .int .u8 0, .int .u8 0, .int .u8 0, .int .u8 0, .int .u8 0, .int .u8 0, .int .u8 255, .int .u8 255, .int .u8 0, .int .u8 0, .int .u8 0, .int .u8 0]] w fun e w' => e = .returned (.agg #[.int .u64 0, .int .u64 281470681743360, .pointer (some p6)]) ∧ Gr w w' := by
  have h := addrFrom16 p4 p6 0 0 0 0 0 0 0 0 0 0 255 255 0 0 0 0 (byt_lit _ rfl) (byt_lit _ rfl) (byt_lit _ rfl) (byt_lit _ rfl) (byt_lit _ rfl) (byt_lit _ rfl) (byt_lit _ rfl) (byt_lit _ rfl) (byt_lit _ rfl) (byt_lit _ rfl) (byt_lit _ rfl) (byt_lit _ rfl) (byt_lit _ rfl) (byt_lit _ rfl) (byt_lit _ rfl) (byt_lit _ rfl) w N
  exact h

theorem ent2 (p4 p6 : Addr) (w : World) (N : Net p4 p6 w) :
    Calls Tryd.prog 46 #[.agg #[.int .u8 0, .int .u8 0, .int .u8 0, .int .u8 0, .int .u8 0, .int .u8 0, .int .u8 0, .int .u8 0, .int .u8 0, .int .u8 0, .int .u8 0, .int .u8 0, .int .u8 0, .int .u8 0, .int .u8 0, .int .u8 0]] w fun e w' => e = .returned (.agg #[.int .u64 0, .int .u64 0, .pointer (some p6)]) ∧ Gr w w' := by
  have h := addrFrom16 p4 p6 0 0 0 0 0 0 0 0 0 0 0 0 0 0 0 0 (byt_lit _ rfl) (byt_lit _ rfl) (byt_lit _ rfl) (byt_lit _ rfl) (byt_lit _ rfl) (byt_lit _ rfl) (byt_lit _ rfl) (byt_lit _ rfl) (byt_lit _ rfl) (byt_lit _ rfl) (byt_lit _ rfl) (byt_lit _ rfl) (byt_lit _ rfl) (byt_lit _ rfl) (byt_lit _ rfl) (byt_lit _ rfl) w N
  exact h

theorem ent3 (p4 p6 : Addr) (w : World) (N : Net p4 p6 w) :
    Calls Tryd.prog 46 #[.agg #[.int .u8 32, .int .u8 1, .int .u8 0, .int .u8 0, .int .u8 0, .int .u8 0, .int .u8 0, .int .u8 0, .int .u8 0, .int .u8 0, .int .u8 0, .int .u8 0, .int .u8 0, .int .u8 0, .int .u8 0, .int .u8 0]] w fun e w' => e = .returned (.agg #[.int .u64 2306124484190404608, .int .u64 0, .pointer (some p6)]) ∧ Gr w w' := by
  have h := addrFrom16 p4 p6 32 1 0 0 0 0 0 0 0 0 0 0 0 0 0 0 (byt_lit _ rfl) (byt_lit _ rfl) (byt_lit _ rfl) (byt_lit _ rfl) (byt_lit _ rfl) (byt_lit _ rfl) (byt_lit _ rfl) (byt_lit _ rfl) (byt_lit _ rfl) (byt_lit _ rfl) (byt_lit _ rfl) (byt_lit _ rfl) (byt_lit _ rfl) (byt_lit _ rfl) (byt_lit _ rfl) (byt_lit _ rfl) w N
  exact h

theorem ent4 (p4 p6 : Addr) (w : World) (N : Net p4 p6 w) :
    Calls Tryd.prog 46 #[.agg #[.int .u8 32, .int .u8 2, .int .u8 0, .int .u8 0, .int .u8 0, .int .u8 0, .int .u8 0, .int .u8 0, .int .u8 0, .int .u8 0, .int .u8 0, .int .u8 0, .int .u8 0, .int .u8 0, .int .u8 0, .int .u8 0]] w fun e w' => e = .returned (.agg #[.int .u64 2306405959167115264, .int .u64 0, .pointer (some p6)]) ∧ Gr w w' := by
  have h := addrFrom16 p4 p6 32 2 0 0 0 0 0 0 0 0 0 0 0 0 0 0 (byt_lit _ rfl) (byt_lit _ rfl) (byt_lit _ rfl) (byt_lit _ rfl) (byt_lit _ rfl) (byt_lit _ rfl) (byt_lit _ rfl) (byt_lit _ rfl) (byt_lit _ rfl) (byt_lit _ rfl) (byt_lit _ rfl) (byt_lit _ rfl) (byt_lit _ rfl) (byt_lit _ rfl) (byt_lit _ rfl) (byt_lit _ rfl) w N
  exact h

theorem ent5 (p4 p6 : Addr) (w : World) (N : Net p4 p6 w) :
    Calls Tryd.prog 46 #[.agg #[.int .u8 63, .int .u8 254, .int .u8 0, .int .u8 0, .int .u8 0, .int .u8 0, .int .u8 0, .int .u8 0, .int .u8 0, .int .u8 0, .int .u8 0, .int .u8 0, .int .u8 0, .int .u8 0, .int .u8 0, .int .u8 0]] w fun e w' => e = .returned (.agg #[.int .u64 4611123068473966592, .int .u64 0, .pointer (some p6)]) ∧ Gr w w' := by
  have h := addrFrom16 p4 p6 63 254 0 0 0 0 0 0 0 0 0 0 0 0 0 0 (byt_lit _ rfl) (byt_lit _ rfl) (byt_lit _ rfl) (byt_lit _ rfl) (byt_lit _ rfl) (byt_lit _ rfl) (byt_lit _ rfl) (byt_lit _ rfl) (byt_lit _ rfl) (byt_lit _ rfl) (byt_lit _ rfl) (byt_lit _ rfl) (byt_lit _ rfl) (byt_lit _ rfl) (byt_lit _ rfl) (byt_lit _ rfl) w N
  exact h

theorem ent6 (p4 p6 : Addr) (w : World) (N : Net p4 p6 w) :
    Calls Tryd.prog 46 #[.agg #[.int .u8 254, .int .u8 192, .int .u8 0, .int .u8 0, .int .u8 0, .int .u8 0, .int .u8 0, .int .u8 0, .int .u8 0, .int .u8 0, .int .u8 0, .int .u8 0, .int .u8 0, .int .u8 0, .int .u8 0, .int .u8 0]] w fun e w' => e = .returned (.agg #[.int .u64 18356672081162141696, .int .u64 0, .pointer (some p6)]) ∧ Gr w w' := by
  have h := addrFrom16 p4 p6 254 192 0 0 0 0 0 0 0 0 0 0 0 0 0 0 (byt_lit _ rfl) (byt_lit _ rfl) (byt_lit _ rfl) (byt_lit _ rfl) (byt_lit _ rfl) (byt_lit _ rfl) (byt_lit _ rfl) (byt_lit _ rfl) (byt_lit _ rfl) (byt_lit _ rfl) (byt_lit _ rfl) (byt_lit _ rfl) (byt_lit _ rfl) (byt_lit _ rfl) (byt_lit _ rfl) (byt_lit _ rfl) w N
  exact h

theorem ent7 (p4 p6 : Addr) (w : World) (N : Net p4 p6 w) :
    Calls Tryd.prog 46 #[.agg #[.int .u8 252, .int .u8 0, .int .u8 0, .int .u8 0, .int .u8 0, .int .u8 0, .int .u8 0, .int .u8 0, .int .u8 0, .int .u8 0, .int .u8 0, .int .u8 0, .int .u8 0, .int .u8 0, .int .u8 0, .int .u8 0]] w fun e w' => e = .returned (.agg #[.int .u64 18158513697557839872, .int .u64 0, .pointer (some p6)]) ∧ Gr w w' := by
  have h := addrFrom16 p4 p6 252 0 0 0 0 0 0 0 0 0 0 0 0 0 0 0 (byt_lit _ rfl) (byt_lit _ rfl) (byt_lit _ rfl) (byt_lit _ rfl) (byt_lit _ rfl) (byt_lit _ rfl) (byt_lit _ rfl) (byt_lit _ rfl) (byt_lit _ rfl) (byt_lit _ rfl) (byt_lit _ rfl) (byt_lit _ rfl) (byt_lit _ rfl) (byt_lit _ rfl) (byt_lit _ rfl) (byt_lit _ rfl) w N
  exact h

theorem ent8 (p4 p6 : Addr) (w : World) (N : Net p4 p6 w) :
    Calls Tryd.prog 46 #[.agg #[.int .u8 0, .int .u8 0, .int .u8 0, .int .u8 0, .int .u8 0, .int .u8 0, .int .u8 0, .int .u8 0, .int .u8 0, .int .u8 0, .int .u8 0, .int .u8 0, .int .u8 0, .int .u8 0, .int .u8 0, .int .u8 0]] w fun e w' => e = .returned (.agg #[.int .u64 0, .int .u64 0, .pointer (some p6)]) ∧ Gr w w' := by
  have h := addrFrom16 p4 p6 0 0 0 0 0 0 0 0 0 0 0 0 0 0 0 0 (byt_lit _ rfl) (byt_lit _ rfl) (byt_lit _ rfl) (byt_lit _ rfl) (byt_lit _ rfl) (byt_lit _ rfl) (byt_lit _ rfl) (byt_lit _ rfl) (byt_lit _ rfl) (byt_lit _ rfl) (byt_lit _ rfl) (byt_lit _ rfl) (byt_lit _ rfl) (byt_lit _ rfl) (byt_lit _ rfl) (byt_lit _ rfl) w N
  exact h

/-- What the table's function leaves. -/
def TabEnd (p6 : Addr) (w : World) (e : Ending) (w' : World) : Prop :=
  ∃ b, e = .returned (.slice (some ⟨b, 0, none⟩) 9 9) ∧ Gr w w' ∧ w.heap.size ≤ b ∧ b < w'.heap.size ∧ ∀ j, j < 54 → w'.cell? ⟨b, j, none⟩ = (tabCells p6)[j]?

set_option maxHeartbeats 4000000 in
set_option maxRecDepth 100000 in
theorem table_any (p4 p6 : Addr) (w : World) (N : Net p4 p6 w) : Calls Tryd.prog 39 #[] w (TabEnd p6 w) := by
  have A0 := Lib.hid (fun W g => ent0 p4 p6 W (N.gr (w' := W) g))
  have P0 : Hid (∀ W, Gr w W → Calls Tryd.prog 55 #[.agg #[.int .u64 0, .int .u64 1, .pointer (some p6)], .int .i64 128] W fun e w' => e = .returned (.agg #[.int .u64 0, .int .u64 1, .pointer (some p6), .int .u8 129]) ∧ Gr W w') := fun W g => prefixFrom p4 p6 0 1 128 W (N.gr g) (by decide) (by decide)
  have A1 := Lib.hid (fun W g => ent1 p4 p6 W (N.gr (w' := W) g))
  have P1 : Hid (∀ W, Gr w W → Calls Tryd.prog 55 #[.agg #[.int .u64 0, .int .u64 281470681743360, .pointer (some p6)], .int .i64 96] W fun e w' => e = .returned (.agg #[.int .u64 0, .int .u64 281470681743360, .pointer (some p6), .int .u8 97]) ∧ Gr W w') := fun W g => prefixFrom p4 p6 0 281470681743360 96 W (N.gr g) (by decide) (by decide)
  have A2 := Lib.hid (fun W g => ent2 p4 p6 W (N.gr (w' := W) g))
  have P2 : Hid (∀ W, Gr w W → Calls Tryd.prog 55 #[.agg #[.int .u64 0, .int .u64 0, .pointer (some p6)], .int .i64 96] W fun e w' => e = .returned (.agg #[.int .u64 0, .int .u64 0, .pointer (some p6), .int .u8 97]) ∧ Gr W w') := fun W g => prefixFrom p4 p6 0 0 96 W (N.gr g) (by decide) (by decide)
  have A3 := Lib.hid (fun W g => ent3 p4 p6 W (N.gr (w' := W) g))
  have P3 : Hid (∀ W, Gr w W → Calls Tryd.prog 55 #[.agg #[.int .u64 2306124484190404608, .int .u64 0, .pointer (some p6)], .int .i64 32] W fun e w' => e = .returned (.agg #[.int .u64 2306124484190404608, .int .u64 0, .pointer (some p6), .int .u8 33]) ∧ Gr W w') := fun W g => prefixFrom p4 p6 2306124484190404608 0 32 W (N.gr g) (by decide) (by decide)
  have A4 := Lib.hid (fun W g => ent4 p4 p6 W (N.gr (w' := W) g))
  have P4 : Hid (∀ W, Gr w W → Calls Tryd.prog 55 #[.agg #[.int .u64 2306405959167115264, .int .u64 0, .pointer (some p6)], .int .i64 16] W fun e w' => e = .returned (.agg #[.int .u64 2306405959167115264, .int .u64 0, .pointer (some p6), .int .u8 17]) ∧ Gr W w') := fun W g => prefixFrom p4 p6 2306405959167115264 0 16 W (N.gr g) (by decide) (by decide)
  have A5 := Lib.hid (fun W g => ent5 p4 p6 W (N.gr (w' := W) g))
  have P5 : Hid (∀ W, Gr w W → Calls Tryd.prog 55 #[.agg #[.int .u64 4611123068473966592, .int .u64 0, .pointer (some p6)], .int .i64 16] W fun e w' => e = .returned (.agg #[.int .u64 4611123068473966592, .int .u64 0, .pointer (some p6), .int .u8 17]) ∧ Gr W w') := fun W g => prefixFrom p4 p6 4611123068473966592 0 16 W (N.gr g) (by decide) (by decide)
  have A6 := Lib.hid (fun W g => ent6 p4 p6 W (N.gr (w' := W) g))
  have P6 : Hid (∀ W, Gr w W → Calls Tryd.prog 55 #[.agg #[.int .u64 18356672081162141696, .int .u64 0, .pointer (some p6)], .int .i64 10] W fun e w' => e = .returned (.agg #[.int .u64 18356672081162141696, .int .u64 0, .pointer (some p6), .int .u8 11]) ∧ Gr W w') := fun W g => prefixFrom p4 p6 18356672081162141696 0 10 W (N.gr g) (by decide) (by decide)
  have A7 := Lib.hid (fun W g => ent7 p4 p6 W (N.gr (w' := W) g))
  have P7 : Hid (∀ W, Gr w W → Calls Tryd.prog 55 #[.agg #[.int .u64 18158513697557839872, .int .u64 0, .pointer (some p6)], .int .i64 7] W fun e w' => e = .returned (.agg #[.int .u64 18158513697557839872, .int .u64 0, .pointer (some p6), .int .u8 8]) ∧ Gr W w') := fun W g => prefixFrom p4 p6 18158513697557839872 0 7 W (N.gr g) (by decide) (by decide)
  have A8 := Lib.hid (fun W g => ent8 p4 p6 W (N.gr (w' := W) g))
  have P8 : Hid (∀ W, Gr w W → Calls Tryd.prog 55 #[.agg #[.int .u64 0, .int .u64 0, .pointer (some p6)], .int .i64 0] W fun e w' => e = .returned (.agg #[.int .u64 0, .int .u64 0, .pointer (some p6), .int .u8 1]) ∧ Gr W w') := fun W g => prefixFrom p4 p6 0 0 0 W (N.gr g) (by decide) (by decide)
  clear N
  go_enter Tryd.func39, Tryd.ntmps39
  go_wp2_with fail
  refine (A0.out _ (Gr.refl w)).mono ?_
  rintro e w1 ⟨rfl, hg⟩
  have HG1 : Hid (Gr w w1) := ((Gr.refl w)).trans hg
  clear hg
  go_wp2_with fail
  refine (P0.out _ HG1.out).mono ?_
  rintro e w2 ⟨rfl, hg⟩
  have HG2 : Hid (Gr w w2) := (HG1.out).trans hg
  clear hg
  go_wp2_with fail
  refine (A1.out _ HG2.out).mono ?_
  rintro e w3 ⟨rfl, hg⟩
  have HG3 : Hid (Gr w w3) := (HG2.out).trans hg
  clear hg
  go_wp2_with fail
  refine (P1.out _ HG3.out).mono ?_
  rintro e w4 ⟨rfl, hg⟩
  have HG4 : Hid (Gr w w4) := (HG3.out).trans hg
  clear hg
  go_wp2_with fail
  refine (A2.out _ HG4.out).mono ?_
  rintro e w5 ⟨rfl, hg⟩
  have HG5 : Hid (Gr w w5) := (HG4.out).trans hg
  clear hg
  go_wp2_with fail
  refine (P2.out _ HG5.out).mono ?_
  rintro e w6 ⟨rfl, hg⟩
  have HG6 : Hid (Gr w w6) := (HG5.out).trans hg
  clear hg
  go_wp2_with fail
  refine (A3.out _ HG6.out).mono ?_
  rintro e w7 ⟨rfl, hg⟩
  have HG7 : Hid (Gr w w7) := (HG6.out).trans hg
  clear hg
  go_wp2_with fail
  refine (P3.out _ HG7.out).mono ?_
  rintro e w8 ⟨rfl, hg⟩
  have HG8 : Hid (Gr w w8) := (HG7.out).trans hg
  clear hg
  go_wp2_with fail
  refine (A4.out _ HG8.out).mono ?_
  rintro e w9 ⟨rfl, hg⟩
  have HG9 : Hid (Gr w w9) := (HG8.out).trans hg
  clear hg
  go_wp2_with fail
  refine (P4.out _ HG9.out).mono ?_
  rintro e w10 ⟨rfl, hg⟩
  have HG10 : Hid (Gr w w10) := (HG9.out).trans hg
  clear hg
  go_wp2_with fail
  refine (A5.out _ HG10.out).mono ?_
  rintro e w11 ⟨rfl, hg⟩
  have HG11 : Hid (Gr w w11) := (HG10.out).trans hg
  clear hg
  go_wp2_with fail
  refine (P5.out _ HG11.out).mono ?_
  rintro e w12 ⟨rfl, hg⟩
  have HG12 : Hid (Gr w w12) := (HG11.out).trans hg
  clear hg
  go_wp2_with fail
  refine (A6.out _ HG12.out).mono ?_
  rintro e w13 ⟨rfl, hg⟩
  have HG13 : Hid (Gr w w13) := (HG12.out).trans hg
  clear hg
  go_wp2_with fail
  refine (P6.out _ HG13.out).mono ?_
  rintro e w14 ⟨rfl, hg⟩
  have HG14 : Hid (Gr w w14) := (HG13.out).trans hg
  clear hg
  go_wp2_with fail
  refine (A7.out _ HG14.out).mono ?_
  rintro e w15 ⟨rfl, hg⟩
  have HG15 : Hid (Gr w w15) := (HG14.out).trans hg
  clear hg
  go_wp2_with fail
  refine (P7.out _ HG15.out).mono ?_
  rintro e w16 ⟨rfl, hg⟩
  have HG16 : Hid (Gr w w16) := (HG15.out).trans hg
  clear hg
  go_wp2_with fail
  refine (A8.out _ HG16.out).mono ?_
  rintro e w17 ⟨rfl, hg⟩
  have HG17 : Hid (Gr w w17) := (HG16.out).trans hg
  clear hg
  go_wp2_with fail
  refine (P8.out _ HG17.out).mono ?_
  rintro e w18 ⟨rfl, hg⟩
  have HG18 : Hid (Gr w w18) := (HG17.out).trans hg
  clear hg
  go_wp2_with fail
  go_ret
  refine ⟨w18.heap.size, rfl, HG18.out.alloc _, HG18.out.size, by simp, fun j hj => ?_⟩
  match j, hj with
  | 0, _ => simp [tabCells] | 1, _ => simp [tabCells] | 2, _ => simp [tabCells] | 3, _ => simp [tabCells] | 4, _ => simp [tabCells] | 5, _ => simp [tabCells] | 6, _ => simp [tabCells] | 7, _ => simp [tabCells] | 8, _ => simp [tabCells] | 9, _ => simp [tabCells] | 10, _ => simp [tabCells] | 11, _ => simp [tabCells] | 12, _ => simp [tabCells] | 13, _ => simp [tabCells] | 14, _ => simp [tabCells] | 15, _ => simp [tabCells] | 16, _ => simp [tabCells] | 17, _ => simp [tabCells] | 18, _ => simp [tabCells] | 19, _ => simp [tabCells] | 20, _ => simp [tabCells] | 21, _ => simp [tabCells] | 22, _ => simp [tabCells] | 23, _ => simp [tabCells] | 24, _ => simp [tabCells] | 25, _ => simp [tabCells] | 26, _ => simp [tabCells] | 27, _ => simp [tabCells] | 28, _ => simp [tabCells] | 29, _ => simp [tabCells] | 30, _ => simp [tabCells] | 31, _ => simp [tabCells] | 32, _ => simp [tabCells] | 33, _ => simp [tabCells] | 34, _ => simp [tabCells] | 35, _ => simp [tabCells] | 36, _ => simp [tabCells] | 37, _ => simp [tabCells] | 38, _ => simp [tabCells] | 39, _ => simp [tabCells] | 40, _ => simp [tabCells] | 41, _ => simp [tabCells] | 42, _ => simp [tabCells] | 43, _ => simp [tabCells] | 44, _ => simp [tabCells] | 45, _ => simp [tabCells] | 46, _ => simp [tabCells] | 47, _ => simp [tabCells] | 48, _ => simp [tabCells] | 49, _ => simp [tabCells] | 50, _ => simp [tabCells] | 51, _ => simp [tabCells] | 52, _ => simp [tabCells] | 53, _ => simp [tabCells]
  | n + 54, h => omega
end Go.Proofs.YtbejikpopealdaaDoor
