/-
  The policy table's lookup of the package, walked: the first entry whose prefix holds the address.
-/
import Derived.Test.YtbejikpopealdaaDoorQNetL
namespace Go.Proofs.YtbejikpopealdaaDoor
open Go.RowKit Go.Sort

theorem be8_hi (x : Int) : be8 (x / 72057594037927936) (x / 281474976710656 % 256) (x / 1099511627776 % 256) (x / 4294967296 % 256) (x / 16777216 % 256) (x / 65536 % 256) (x / 256 % 256) (x % 256) = x := by
  unfold be8
  omega

/-- From the sixteen bytes of an address back to its halves. -/
theorem from16 (p4 p6 : Addr) (hi lo : Int) (h0 : 0 ≤ hi) (h1 : hi < 18446744073709551616) (h2 : 0 ≤ lo) (h3 : lo < 18446744073709551616) (w : World) (N : Net p4 p6 w) :
    Calls Tryd.prog 46 #[as16V hi lo] w fun e w' => e = .returned (.agg #[.int .u64 hi, .int .u64 lo, .pointer (some p6)]) ∧ Gr w w' := by
  have h := addrFrom16 p4 p6 (hi / 72057594037927936) (hi / 281474976710656 % 256) (hi / 1099511627776 % 256) (hi / 4294967296 % 256) (hi / 16777216 % 256) (hi / 65536 % 256) (hi / 256 % 256) (hi % 256) (lo / 72057594037927936) (lo / 281474976710656 % 256) (lo / 1099511627776 % 256) (lo / 4294967296 % 256) (lo / 16777216 % 256) (lo / 65536 % 256) (lo / 256 % 256) (lo % 256) (by unfold Byt; omega) (by unfold Byt; omega) (by unfold Byt; omega) (by unfold Byt; omega) (by unfold Byt; omega) (by unfold Byt; omega) (by unfold Byt; omega) (by unfold Byt; omega) (by unfold Byt; omega) (by unfold Byt; omega) (by unfold Byt; omega) (by unfold Byt; omega) (by unfold Byt; omega) (by unfold Byt; omega) (by unfold Byt; omega) (by unfold Byt; omega) w N
  rw [be8_hi hi, be8_hi lo] at h
  exact h

theorem mask_tab (j : Nat) (hj : j < 9) (w : World) :
    Calls Tryd.prog 79 #[.int .i64 ((tabN.getD j 0 : Nat) : Int)] w fun e w' => e = .returned (.agg #[.int .u64 (mhi (tabN.getD j 0)), .int .u64 (mlo (tabN.getD j 0))]) ∧ Gr w w' := by
  match j, hj with
  | 0, _ => exact mask6_128 w
  | 1, _ => exact mask6_96 w
  | 2, _ => exact mask6_96 w
  | 3, _ => exact mask6_32 w
  | 4, _ => exact mask6_16 w
  | 5, _ => exact mask6_16 w
  | 6, _ => exact mask6_10 w
  | 7, _ => exact mask6_7 w
  | 8, _ => exact mask6_0 w
  | n + 9, h => omega

/-- Does entry j hold the address. -/
def hitB (hi lo : Int) (j : Nat) : Bool := contB hi lo (tabHi.getD j 0) (tabLo.getD j 0) (mhi (tabN.getD j 0)) (mlo (tabN.getD j 0))

theorem hit_tab (p4 p6 : Addr) (hi lo : Int) (j : Nat) (hj : j < 9) (w : World) (N : Net p4 p6 w) :
    Calls Tryd.prog 57 #[.agg #[.int .u64 (tabHi.getD j 0), .int .u64 (tabLo.getD j 0), .pointer (some p6), .int .u8 (((tabN.getD j 0 : Nat) : Int) + 1)], .agg #[.int .u64 hi, .int .u64 lo, .pointer (some p6)]] w fun e w' => e = .returned (.bool (hitB hi lo j)) ∧ Gr w w' := by
  have hn : ((tabN.getD j 0 : Nat) : Int) ≤ 128 := by
    match j, hj with
    | 0, _ => decide
    | 1, _ => decide
    | 2, _ => decide
    | 3, _ => decide
    | 4, _ => decide
    | 5, _ => decide
    | 6, _ => decide
    | 7, _ => decide
    | 8, _ => decide
    | n + 9, h => omega
  exact contains_any p4 p6 (tabHi.getD j 0) (tabLo.getD j 0) hi lo (mhi (tabN.getD j 0)) (mlo (tabN.getD j 0)) ((tabN.getD j 0 : Nat) : Int) (by omega) hn (fun W => mask_tab j hj W) w N

theorem hit_8 (hi lo : Int) : hitB hi lo 8 = true := by
  have h : ∀ x : Int, bits .and .u64 x 0 = 0 := by
    intro x
    simp [bits]
    decide
  show contB hi lo 0 0 0 0 = true
  unfold contB
  rw [h, h]
  decide

/-- The table's cells entry by entry. -/
def TabRows (p6 : Addr) (tb : Nat) (w : World) : Prop :=
  tb < w.heap.size ∧ ∀ j, j < 9 → w.cell? ⟨tb, j * 6, none⟩ = some (.int .u64 (tabHi.getD j 0)) ∧ w.cell? ⟨tb, j * 6 + 1, none⟩ = some (.int .u64 (tabLo.getD j 0)) ∧ w.cell? ⟨tb, j * 6 + 2, none⟩ = some (.pointer (some p6)) ∧ w.cell? ⟨tb, j * 6 + 3, none⟩ = some (.int .u8 (((tabN.getD j 0 : Nat) : Int) + 1)) ∧ w.cell? ⟨tb, j * 6 + 4, none⟩ = some (.int .u8 (tabP.getD j 0)) ∧ w.cell? ⟨tb, j * 6 + 5, none⟩ = some (.int .u8 (tabL.getD j 0))
theorem TabRows.gr {p6 : Addr} {tb : Nat} {w w' : World} (h : TabRows p6 tb w) (g : Gr w w') : TabRows p6 tb w' := by
  refine ⟨Nat.lt_of_lt_of_le h.1 g.size, fun j hj => ?_⟩
  obtain ⟨h0, h1, h2, h3, h4, h5⟩ := h.2 j hj
  exact ⟨g.cell h.1 h0, g.cell h.1 h1, g.cell h.1 h2, g.cell h.1 h3, g.cell h.1 h4, g.cell h.1 h5⟩
theorem TabRows.of {p6 : Addr} {tb : Nat} {w : World} (h : tb < w.heap.size) (hc : ∀ j, j < 54 → w.cell? ⟨tb, j, none⟩ = (tabCells p6)[j]?) : TabRows p6 tb w := by
  refine ⟨h, fun j hj => ?_⟩
  match j, hj with
  | 0, _ => exact ⟨(hc 0 (by decide)).trans rfl, (hc 1 (by decide)).trans rfl, (hc 2 (by decide)).trans rfl, (hc 3 (by decide)).trans rfl, (hc 4 (by decide)).trans rfl, (hc 5 (by decide)).trans rfl⟩
  | 1, _ => exact ⟨(hc 6 (by decide)).trans rfl, (hc 7 (by decide)).trans rfl, (hc 8 (by decide)).trans rfl, (hc 9 (by decide)).trans rfl, (hc 10 (by decide)).trans rfl, (hc 11 (by decide)).trans rfl⟩
  | 2, _ => exact ⟨(hc 12 (by decide)).trans rfl, (hc 13 (by decide)).trans rfl, (hc 14 (by decide)).trans rfl, (hc 15 (by decide)).trans rfl, (hc 16 (by decide)).trans rfl, (hc 17 (by decide)).trans rfl⟩
  | 3, _ => exact ⟨(hc 18 (by decide)).trans rfl, (hc 19 (by decide)).trans rfl, (hc 20 (by decide)).trans rfl, (hc 21 (by decide)).trans rfl, (hc 22 (by decide)).trans rfl, (hc 23 (by decide)).trans rfl⟩
  | 4, _ => exact ⟨(hc 24 (by decide)).trans rfl, (hc 25 (by decide)).trans rfl, (hc 26 (by decide)).trans rfl, (hc 27 (by decide)).trans rfl, (hc 28 (by decide)).trans rfl, (hc 29 (by decide)).trans rfl⟩
  | 5, _ => exact ⟨(hc 30 (by decide)).trans rfl, (hc 31 (by decide)).trans rfl, (hc 32 (by decide)).trans rfl, (hc 33 (by decide)).trans rfl, (hc 34 (by decide)).trans rfl, (hc 35 (by decide)).trans rfl⟩
  | 6, _ => exact ⟨(hc 36 (by decide)).trans rfl, (hc 37 (by decide)).trans rfl, (hc 38 (by decide)).trans rfl, (hc 39 (by decide)).trans rfl, (hc 40 (by decide)).trans rfl, (hc 41 (by decide)).trans rfl⟩
  | 7, _ => exact ⟨(hc 42 (by decide)).trans rfl, (hc 43 (by decide)).trans rfl, (hc 44 (by decide)).trans rfl, (hc 45 (by decide)).trans rfl, (hc 46 (by decide)).trans rfl, (hc 47 (by decide)).trans rfl⟩
  | 8, _ => exact ⟨(hc 48 (by decide)).trans rfl, (hc 49 (by decide)).trans rfl, (hc 50 (by decide)).trans rfl, (hc 51 (by decide)).trans rfl, (hc 52 (by decide)).trans rfl, (hc 53 (by decide)).trans rfl⟩
  | n + 9, h => omega

/-- What the lookup leaves. -/
def ClsEnd (p6 : Addr) (hi lo : Int) (w : World) (e : Ending) (w' : World) : Prop :=
  ∃ c, c < 9 ∧ hitB hi lo c = true ∧ (∀ j, j < c → hitB hi lo j = false) ∧ e = .returned (.agg #[.int .u64 (tabHi.getD c 0), .int .u64 (tabLo.getD c 0), .pointer (some p6), .int .u8 (((tabN.getD c 0 : Nat) : Int) + 1), .int .u8 (tabP.getD c 0), .int .u8 (tabL.getD c 0)]) ∧ Gr w w'

/-- The world at the head of the lookup's loop. -/
def ClsW (p6 : Addr) (hi lo : Int) (w wr : World) : Prop :=
  Gr w wr ∧ w.heap.size + 1 < wr.heap.size ∧ wr.cell? ⟨w.heap.size, 0, none⟩ = some (.int .u64 hi) ∧ wr.cell? ⟨w.heap.size, 1, none⟩ = some (.int .u64 lo) ∧ wr.cell? ⟨w.heap.size, 2, none⟩ = some (.pointer (some p6)) ∧
  (∀ j, j < 6 → ∃ v, wr.cell? ⟨w.heap.size + 1, j, none⟩ = some v) ∧ ∀ j, wr.frozen? ⟨w.heap.size + 1, j, none⟩ = false

theorem ClsW.gr {p6 : Addr} {hi lo : Int} {w wr wk : World} (h : ClsW p6 hi lo w wr) (hg' : Gr wr wk) : ClsW p6 hi lo w wk := by
  obtain ⟨g, hl, c0, c1, c2, d, f⟩ := h
  have hl' : w.heap.size < wr.heap.size := by omega
  refine ⟨g.trans hg', Nat.lt_of_lt_of_le hl hg'.size, hg'.cell hl' c0, hg'.cell hl' c1, hg'.cell hl' c2, fun j hj => ?_, fun j => hg'.frozen hl (f j)⟩
  obtain ⟨v, hv⟩ := d j hj
  exact ⟨v, hg'.cell hl hv⟩

theorem no_snoc {hi lo : Int} {j : Nat} (h : ∀ i, i < j → hitB hi lo i = false) (hj : hitB hi lo j = false) : ∀ i, i < j + 1 → hitB hi lo i = false := by
  intro i hi
  rcases Nat.lt_succ_iff_lt_or_eq.1 hi with h' | rfl
  · exact h i h'
  · exact hj

set_option maxHeartbeats 8000000 in
set_option maxRecDepth 100000 in
theorem policy_0 (p4 p6 : Addr) (hi lo : Int) (tb : Nat) (w : World) (N : Net p4 p6 w) (hi0 : 0 ≤ hi) (hi1 : hi < 18446744073709551616) (lo0 : 0 ≤ lo) (lo1 : lo < 18446744073709551616) (TC : TabRows p6 tb w) :
    Calls Tryd.prog 40 #[.slice (some ⟨tb, 0, none⟩) 9 9, .agg #[.int .u64 hi, .int .u64 lo, .pointer (zp p4 p6 (some false))]] w (ClsEnd p6 hi lo w) := by
  have I56 : Hid (∀ W, Gr w W → Calls Tryd.prog 56 #[.agg #[.int .u64 hi, .int .u64 lo, .pointer (zp p4 p6 (some false))]] W fun e w' => e = .returned (.bool true) ∧ Gr W w') := fun W g => is4_any p4 p6 (some false) hi lo W (N.gr (w' := W) g)
  have I53 := Lib.hid (fun W => as16_any hi lo (zp p4 p6 (some false)) hi0 hi1 lo0 lo1 W)
  have I46 := Lib.hid (fun W g => from16 p4 p6 hi lo hi0 hi1 lo0 lo1 W (N.gr (w' := W) g))
  have I57 : Hid (∀ j, j < 9 → ∀ W, Gr w W → _) := fun j hj W g => hit_tab p4 p6 hi lo j hj W (N.gr (w' := W) g)
  have HT := Lib.hid (fun W g => TC.gr (w' := W) g)
  have H8 := Lib.hid (hit_8 hi lo)
  clear hi0 hi1 lo0 lo1
  clear N TC
  go_enter Tryd.func40, Tryd.ntmps40
  go_wp2_with fail
  refine (I56.out _ (((Gr.refl w).alloc _).alloc _)).mono ?_
  rintro e w1 ⟨rfl, hg⟩
  have hl1 : w.heap.size + 1 < w1.heap.size := by have := hg.size; (try simp at this); omega
  have hl1' : w.heap.size < w1.heap.size := by omega
  obtain ⟨hc1, hf1⟩ := hg.cells
  have HG1 : Hid (Gr w w1) := (((Gr.refl w).alloc _).alloc _).trans hg
  clear hg
  go_wp2_with fail
  refine (I53.out _).mono ?_
  rintro e w2 ⟨rfl, hg⟩
  have hl2 : w.heap.size + 1 < w2.heap.size := Nat.lt_of_lt_of_le hl1 hg.size
  have hl2' : w.heap.size < w2.heap.size := by omega
  obtain ⟨hc2, hf2⟩ := hg.cells
  have HG2 : Hid (Gr w w2) := HG1.out.trans hg
  clear hg
  go_wp2_with fail
  refine (I46.out _ HG2.out).mono ?_
  rintro e w3 ⟨rfl, hg⟩
  have hl3 : w.heap.size + 1 < w3.heap.size := Nat.lt_of_lt_of_le hl2 hg.size
  have hl3' : w.heap.size < w3.heap.size := by omega
  obtain ⟨hc3, hf3⟩ := hg.cells
  have HG3 : Hid (Gr w w3) := HG2.out.trans hg
  clear hg
  have c0 : w3.cell? ⟨w.heap.size, 0, none⟩ = some (.int .u64 hi) := by rw [hc3 _ _ hl2', hc2 _ _ hl1', hc1 _ _ (by simp; omega)]; simp
  have c1 : w3.cell? ⟨w.heap.size, 1, none⟩ = some (.int .u64 lo) := by rw [hc3 _ _ hl2', hc2 _ _ hl1', hc1 _ _ (by simp; omega)]; simp
  have c2 : w3.cell? ⟨w.heap.size, 2, none⟩ = some (.pointer (zp p4 p6 (some false))) := by rw [hc3 _ _ hl2', hc2 _ _ hl1', hc1 _ _ (by simp; omega)]; simp
  have f3 : ∀ j, w3.frozen? ⟨w.heap.size + 1, j, none⟩ = false := by intro j; rw [hf3 _ _ hl2, hf2 _ _ hl1, hf1 _ _ (by simp)]; simp
  have ff3 : ∀ j, w3.frozen? ⟨w.heap.size, j, none⟩ = false := by intro j; rw [hf3 _ _ hl2', hf2 _ _ hl1', hf1 _ _ (by simp; omega)]; simp
  have d3 : ∀ j, j < 6 → ∃ v, w3.cell? ⟨w.heap.size + 1, j, none⟩ = some v := by
    intro j hj
    rw [hc3 _ _ hl2, hc2 _ _ hl1, hc1 _ _ (by simp)]
    match j, hj with
    | 0, _ => exact ⟨_, by simp; rfl⟩
    | 1, _ => exact ⟨_, by simp; rfl⟩
    | 2, _ => exact ⟨_, by simp; rfl⟩
    | 3, _ => exact ⟨_, by simp; rfl⟩
    | 4, _ => exact ⟨_, by simp; rfl⟩
    | 5, _ => exact ⟨_, by simp; rfl⟩
    | n + 6, h => omega
  clear hc1 hf1 hc2 hf2 hc3 hf3
  have HW : Hid (∀ W, W = ((w3.setCell ⟨w.heap.size, 0, none⟩ (.int .u64 hi)).setCell ⟨w.heap.size, 1, none⟩ (.int .u64 lo)).setCell ⟨w.heap.size, 2, none⟩ (.pointer (some p6)) → ClsW p6 hi lo w W) := by
    rintro W rfl
    refine ⟨((HG3.out.setCell (Nat.le_refl _) _).setCell (Nat.le_refl _) _).setCell (Nat.le_refl _) _, by simpa [go_sem] using hl3, by simp [go_sem, c0], by simp [go_sem, c1], World.cell?_setCell_same' _ _ _ (by simp [go_sem, c2]), fun j hj => ?_, fun j => by simpa [go_sem] using f3 j⟩
    obtain ⟨v, hv⟩ := d3 j hj
    exact ⟨v, by simp [go_sem, hv]⟩
  have WT : Hid (Gr w w3) := HG3
  clear d3 f3
  go_wp2_with fail
  go_loopw [14] (fun s14 wr => ∃ j : Nat, j ≤ 8 ∧ s14 = .int .i64 j ∧ Hid (∀ i, i < j → hitB hi lo i = false) ∧ Hid (ClsW p6 hi lo w wr)) (fun s14 _ => 8 - (intOf s14).toNat)
  case atStart => exact ⟨0, by omega, rfl, fun i hi => absurd hi (Nat.not_lt_zero i), HW.out _ rfl⟩
  case round =>
    obtain ⟨j, hj, rfl, HN, HC⟩ := hrel
    obtain ⟨g, hl, c0, c1, c2, d, f⟩ := HC.out
    obtain ⟨tl, tt⟩ := HT.out _ g
    obtain ⟨t0, t1, t2, t3, t4, t5⟩ := tt j (by omega)
    have I := Lib.hid (I57.out j (by omega))
    have HGr := Lib.hid g
    have HD := Lib.hid d
    have HF := Lib.hid f
    have HJ : j < 9 := by omega
    obtain ⟨th, Hth⟩ : ∃ x, Hid (x = tabHi.getD j 0) := ⟨_, rfl⟩
    obtain ⟨tlo, Htlo⟩ : ∃ x, Hid (x = tabLo.getD j 0) := ⟨_, rfl⟩
    obtain ⟨tn, Htn⟩ : ∃ x : Int, Hid (x = ((tabN.getD j 0 : Nat) : Int) + 1) := ⟨_, rfl⟩
    obtain ⟨tp, Htp⟩ : ∃ x, Hid (x = tabP.getD j 0) := ⟨_, rfl⟩
    obtain ⟨tla, Htla⟩ : ∃ x, Hid (x = tabL.getD j 0) := ⟨_, rfl⟩
    rw [← Hth.out] at t0 I
    rw [← Htlo.out] at t1 I
    rw [← Htn.out] at t3 I
    rw [← Htp.out] at t4
    rw [← Htla.out] at t5
    have hl' : w.heap.size < wr.heap.size := by omega
    clear tt g d f
    have hl2 : w.heap.size + 1 < wr.heap.size + 1 := by omega
    have h88 : hitB hi lo j = false → j < 8 := fun hB => by
      rcases Nat.lt_or_ge j 8 with h | h
      · exact h
      · have : j = 8 := by omega
        subst this
        rw [H8.out] at hB
        exact absurd hB (by decide)
    have H88 := Lib.hid h88
    have HI := Lib.hid (fun (wk : World) (hg : Gr (wr.alloc (Obj.cells #[.int .u64 th, .int .u64 tlo, .pointer (some p6), .int .u8 tn, .int .u8 tp, .int .u8 tla] 65)) wk) => (HC.out.gr (hg' := (Gr.refl wr).alloc _)).gr (hg' := hg))
    clear h88
    cases hB : hitB hi lo j
    · rw [hB] at I
      have HB := Lib.hid hB
      clear hB
      go_wp2_with fail
      refine (I.out _ (HGr.out.alloc _)).mono ?_
      rintro e wk ⟨rfl, hg⟩
      have HW := HI.out _ hg
      have Hk := Lib.hid HW
      clear hg HW HI
      go_wp2_with fail
      go_round
      case rel => exact ⟨j + 1, H88.out HB.out, by go_num, no_snoc HN.out HB.out, Hk.out⟩
      case measure =>
        have := H88.out HB.out
        simp [intOf]
        omega
    · rw [hB] at I
      have HB := Lib.hid hB
      clear hB
      go_wp2_with fail
      refine (I.out _ (HGr.out.alloc _)).mono ?_
      rintro e wk ⟨rfl, hg⟩
      have hlk : wr.heap.size < wk.heap.size := by have := hg.size; (try simp [go_sem] at this); omega
      obtain ⟨hck, hfk⟩ := hg.cells
      obtain ⟨gk, hlk2, _, _, _, dk, fk⟩ := HI.out _ hg
      have HGk := Lib.hid gk
      have e0 : wk.cell? ⟨wr.heap.size, 0, none⟩ = some (.int .u64 th) := by rw [hck _ _ (by simp [go_sem])]; simp [go_sem]
      have e1 : wk.cell? ⟨wr.heap.size, 1, none⟩ = some (.int .u64 tlo) := by rw [hck _ _ (by simp [go_sem])]; simp [go_sem]
      have e2 : wk.cell? ⟨wr.heap.size, 2, none⟩ = some (.pointer (some p6)) := by rw [hck _ _ (by simp [go_sem])]; simp [go_sem]
      have e3 : wk.cell? ⟨wr.heap.size, 3, none⟩ = some (.int .u8 tn) := by rw [hck _ _ (by simp [go_sem])]; simp [go_sem]
      have e4 : wk.cell? ⟨wr.heap.size, 4, none⟩ = some (.int .u8 tp) := by rw [hck _ _ (by simp [go_sem])]; simp [go_sem]
      have e5 : wk.cell? ⟨wr.heap.size, 5, none⟩ = some (.int .u8 tla) := by rw [hck _ _ (by simp [go_sem])]; simp [go_sem]
      have k0 := fk 0
      have k1 := fk 1
      have k2 := fk 2
      have k3 := fk 3
      have k4 := fk 4
      have k5 := fk 5
      obtain ⟨v0, d0⟩ := dk 0 (by decide)
      obtain ⟨v1, d1⟩ := dk 1 (by decide)
      obtain ⟨v2, d2⟩ := dk 2 (by decide)
      obtain ⟨v3, d3⟩ := dk 3 (by decide)
      obtain ⟨v4, d4⟩ := dk 4 (by decide)
      obtain ⟨v5, d5⟩ := dk 5 (by decide)
      clear hg hck hfk dk fk gk HI
      go_wp2_with fail
      refine bodyPost_ret (v := .agg #[.int .u64 th, .int .u64 tlo, .pointer (some p6), .int .u8 tn, .int .u8 tp, .int .u8 tla]) (by simp [results, Tryd.results40, go_sem, d0, d1, d2, d3, d4, d5]) rfl ⟨j, HJ, HB.out, HN.out, ?_, ?_⟩
      · rw [← Hth.out, ← Htlo.out, ← Htn.out, ← Htp.out, ← Htla.out]
      · exact (((((HGk.out.setCell (by simp) _).setCell (by simp) _).setCell (by simp) _).setCell (by simp) _).setCell (by simp) _).setCell (by simp) _

set_option maxHeartbeats 8000000 in
set_option maxRecDepth 100000 in
theorem policy_1 (p4 p6 : Addr) (hi lo : Int) (tb : Nat) (w : World) (N : Net p4 p6 w) (TC : TabRows p6 tb w) :
    Calls Tryd.prog 40 #[.slice (some ⟨tb, 0, none⟩) 9 9, .agg #[.int .u64 hi, .int .u64 lo, .pointer (zp p4 p6 (some true))]] w (ClsEnd p6 hi lo w) := by
  have I56 : Hid (∀ W, Gr w W → Calls Tryd.prog 56 #[.agg #[.int .u64 hi, .int .u64 lo, .pointer (zp p4 p6 (some true))]] W fun e w' => e = .returned (.bool false) ∧ Gr W w') := fun W g => is4_any p4 p6 (some true) hi lo W (N.gr (w' := W) g)
  have zpp : Hid (zp p4 p6 (some true) = some p6) := rfl
  have I57 : Hid (∀ j, j < 9 → ∀ W, Gr w W → _) := fun j hj W g => hit_tab p4 p6 hi lo j hj W (N.gr (w' := W) g)
  have HT := Lib.hid (fun W g => TC.gr (w' := W) g)
  have H8 := Lib.hid (hit_8 hi lo)
  clear N TC
  go_enter Tryd.func40, Tryd.ntmps40
  go_wp2_with fail
  refine (I56.out _ (((Gr.refl w).alloc _).alloc _)).mono ?_
  rintro e w1 ⟨rfl, hg⟩
  have hl1 : w.heap.size + 1 < w1.heap.size := by have := hg.size; (try simp at this); omega
  have hl1' : w.heap.size < w1.heap.size := by omega
  obtain ⟨hc1, hf1⟩ := hg.cells
  have HG1 : Hid (Gr w w1) := (((Gr.refl w).alloc _).alloc _).trans hg
  clear hg
  have HW : Hid (ClsW p6 hi lo w w1) := by
    refine ⟨HG1.out, hl1, by rw [hc1 _ _ (by simp; omega)]; simp, by rw [hc1 _ _ (by simp; omega)]; simp, by rw [hc1 _ _ (by simp; omega), ← zpp.out]; simp, fun j hj => ?_, fun j => by rw [hf1 _ _ (by simp)]; simp⟩
    rw [hc1 _ _ (by simp)]
    match j, hj with
    | 0, _ => exact ⟨_, by simp; rfl⟩
    | 1, _ => exact ⟨_, by simp; rfl⟩
    | 2, _ => exact ⟨_, by simp; rfl⟩
    | 3, _ => exact ⟨_, by simp; rfl⟩
    | 4, _ => exact ⟨_, by simp; rfl⟩
    | 5, _ => exact ⟨_, by simp; rfl⟩
    | n + 6, h => omega
  clear hc1 hf1
  go_wp2_with fail
  go_loopw [14] (fun s14 wr => ∃ j : Nat, j ≤ 8 ∧ s14 = .int .i64 j ∧ Hid (∀ i, i < j → hitB hi lo i = false) ∧ Hid (ClsW p6 hi lo w wr)) (fun s14 _ => 8 - (intOf s14).toNat)
  case atStart => exact ⟨0, by omega, rfl, fun i hi => absurd hi (Nat.not_lt_zero i), HW.out⟩
  case round =>
    obtain ⟨j, hj, rfl, HN, HC⟩ := hrel
    obtain ⟨g, hl, c0, c1, c2, d, f⟩ := HC.out
    obtain ⟨tl, tt⟩ := HT.out _ g
    obtain ⟨t0, t1, t2, t3, t4, t5⟩ := tt j (by omega)
    have I := Lib.hid (I57.out j (by omega))
    have HGr := Lib.hid g
    have HD := Lib.hid d
    have HF := Lib.hid f
    have HJ : j < 9 := by omega
    obtain ⟨th, Hth⟩ : ∃ x, Hid (x = tabHi.getD j 0) := ⟨_, rfl⟩
    obtain ⟨tlo, Htlo⟩ : ∃ x, Hid (x = tabLo.getD j 0) := ⟨_, rfl⟩
    obtain ⟨tn, Htn⟩ : ∃ x : Int, Hid (x = ((tabN.getD j 0 : Nat) : Int) + 1) := ⟨_, rfl⟩
    obtain ⟨tp, Htp⟩ : ∃ x, Hid (x = tabP.getD j 0) := ⟨_, rfl⟩
    obtain ⟨tla, Htla⟩ : ∃ x, Hid (x = tabL.getD j 0) := ⟨_, rfl⟩
    rw [← Hth.out] at t0 I
    rw [← Htlo.out] at t1 I
    rw [← Htn.out] at t3 I
    rw [← Htp.out] at t4
    rw [← Htla.out] at t5
    have hl' : w.heap.size < wr.heap.size := by omega
    clear tt g d f
    have hl2 : w.heap.size + 1 < wr.heap.size + 1 := by omega
    have h88 : hitB hi lo j = false → j < 8 := fun hB => by
      rcases Nat.lt_or_ge j 8 with h | h
      · exact h
      · have : j = 8 := by omega
        subst this
        rw [H8.out] at hB
        exact absurd hB (by decide)
    have H88 := Lib.hid h88
    have HI := Lib.hid (fun (wk : World) (hg : Gr (wr.alloc (Obj.cells #[.int .u64 th, .int .u64 tlo, .pointer (some p6), .int .u8 tn, .int .u8 tp, .int .u8 tla] 65)) wk) => (HC.out.gr (hg' := (Gr.refl wr).alloc _)).gr (hg' := hg))
    clear h88
    cases hB : hitB hi lo j
    · rw [hB] at I
      have HB := Lib.hid hB
      clear hB
      go_wp2_with fail
      refine (I.out _ (HGr.out.alloc _)).mono ?_
      rintro e wk ⟨rfl, hg⟩
      have HW := HI.out _ hg
      have Hk := Lib.hid HW
      clear hg HW HI
      go_wp2_with fail
      go_round
      case rel => exact ⟨j + 1, H88.out HB.out, by go_num, no_snoc HN.out HB.out, Hk.out⟩
      case measure =>
        have := H88.out HB.out
        simp [intOf]
        omega
    · rw [hB] at I
      have HB := Lib.hid hB
      clear hB
      go_wp2_with fail
      refine (I.out _ (HGr.out.alloc _)).mono ?_
      rintro e wk ⟨rfl, hg⟩
      have hlk : wr.heap.size < wk.heap.size := by have := hg.size; (try simp [go_sem] at this); omega
      obtain ⟨hck, hfk⟩ := hg.cells
      obtain ⟨gk, hlk2, _, _, _, dk, fk⟩ := HI.out _ hg
      have HGk := Lib.hid gk
      have e0 : wk.cell? ⟨wr.heap.size, 0, none⟩ = some (.int .u64 th) := by rw [hck _ _ (by simp [go_sem])]; simp [go_sem]
      have e1 : wk.cell? ⟨wr.heap.size, 1, none⟩ = some (.int .u64 tlo) := by rw [hck _ _ (by simp [go_sem])]; simp [go_sem]
      have e2 : wk.cell? ⟨wr.heap.size, 2, none⟩ = some (.pointer (some p6)) := by rw [hck _ _ (by simp [go_sem])]; simp [go_sem]
      have e3 : wk.cell? ⟨wr.heap.size, 3, none⟩ = some (.int .u8 tn) := by rw [hck _ _ (by simp [go_sem])]; simp [go_sem]
      have e4 : wk.cell? ⟨wr.heap.size, 4, none⟩ = some (.int .u8 tp) := by rw [hck _ _ (by simp [go_sem])]; simp [go_sem]
      have e5 : wk.cell? ⟨wr.heap.size, 5, none⟩ = some (.int .u8 tla) := by rw [hck _ _ (by simp [go_sem])]; simp [go_sem]
      have k0 := fk 0
      have k1 := fk 1
      have k2 := fk 2
      have k3 := fk 3
      have k4 := fk 4
      have k5 := fk 5
      obtain ⟨v0, d0⟩ := dk 0 (by decide)
      obtain ⟨v1, d1⟩ := dk 1 (by decide)
      obtain ⟨v2, d2⟩ := dk 2 (by decide)
      obtain ⟨v3, d3⟩ := dk 3 (by decide)
      obtain ⟨v4, d4⟩ := dk 4 (by decide)
      obtain ⟨v5, d5⟩ := dk 5 (by decide)
      clear hg hck hfk dk fk gk HI
      go_wp2_with fail
      refine bodyPost_ret (v := .agg #[.int .u64 th, .int .u64 tlo, .pointer (some p6), .int .u8 tn, .int .u8 tp, .int .u8 tla]) (by simp [results, Tryd.results40, go_sem, d0, d1, d2, d3, d4, d5]) rfl ⟨j, HJ, HB.out, HN.out, ?_, ?_⟩
      · rw [← Hth.out, ← Htlo.out, ← Htn.out, ← Htp.out, ← Htla.out]
      · exact (((((HGk.out.setCell (by simp) _).setCell (by simp) _).setCell (by simp) _).setCell (by simp) _).setCell (by simp) _).setCell (by simp) _

theorem policy_any (p4 p6 : Addr) (k : Option Bool) (hk : k.isSome = true) (hi lo : Int) (tb : Nat) (w : World) (N : Net p4 p6 w) (hi0 : 0 ≤ hi) (hi1 : hi < 18446744073709551616) (lo0 : 0 ≤ lo) (lo1 : lo < 18446744073709551616) (TC : TabRows p6 tb w) :
    Calls Tryd.prog 40 #[.slice (some ⟨tb, 0, none⟩) 9 9, .agg #[.int .u64 hi, .int .u64 lo, .pointer (zp p4 p6 k)]] w (ClsEnd p6 hi lo w) := by
  match k, hk with
  | some false, _ => exact policy_0 p4 p6 hi lo tb w N hi0 hi1 lo0 lo1 TC
  | some true, _ => exact policy_1 p4 p6 hi lo tb w N TC

end Go.Proofs.YtbejikpopealdaaDoor
