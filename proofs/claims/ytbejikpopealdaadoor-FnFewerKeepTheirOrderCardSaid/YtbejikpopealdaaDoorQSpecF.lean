/-
  spec.Policy, walked: the row of the longest match.
-/
import Derived.Test.YtbejikpopealdaaDoorQSpecE
import Derived.BigQuiet
namespace Go.Proofs.YtbejikpopealdaaDoor
open Go.RowKit

/-- The best row's bits, precedence and label among the first j rows. -/
def polAt (q : Nat → Bool) : Nat → Int × Int × Int
  | 0 => (-1, 0, 0)
  | j + 1 => if (decide ((polAt q j).1 < (sBits j : Nat)) && q j) = true then ((sBits j : Nat), sPrec j, sLab j) else polAt q j

theorem polAt_step {q : Nat → Bool} {j : Nat} (h : (decide ((polAt q j).1 < (sBits j : Nat)) && q j) = true) : polAt q (j + 1) = (((sBits j : Nat) : Int), sPrec j, sLab j) := by
  rw [polAt, if_pos h]
theorem polAt_stay {q : Nat → Bool} {j : Nat} (h : (decide ((polAt q j).1 < (sBits j : Nat)) && q j) = false) : polAt q (j + 1) = polAt q j := by
  rw [polAt, if_neg (by rw [h]; decide)]

/-- Row by row: does the address begin as the row says. -/
def sHit (ws : List Int) (j : Nat) : Bool := startsB ws (sRow j) (sBits j)

theorem sRow_len (j : Nat) : (sRow j).length = 16 := by
  unfold sRow
  split <;> exact padL_len (by decide)
theorem sBits_le (j : Nat) : sBits j ≤ 128 := by
  unfold sBits
  split <;> decide

theorem starts_holds (a a' : Option Addr) (c c' m : Nat) (xs ys : List Int) (w : World) (hm : m ≤ 128) (hx : xs.length = 16) (hy : ys.length = 16) (h : HoldsB w a xs) (h' : HoldsB w a' ys) :
    Calls Tryd.prog 30 #[.slice a 16 c, .slice a' 16 c', .int .i64 m] w fun e w' => e = .returned (.bool (startsB xs ys m)) ∧ Gr w w' := by
  rcases h.2 with rfl | ⟨b, off, rfl, _, hc⟩
  · simp at hx
  rcases h'.2 with rfl | ⟨b', off', rfl, _, hc'⟩
  · simp at hy
  refine (starts_any b off c b' off' c' 16 16 m xs ys w hm (by omega) (by omega) (byt_getD h.1) (byt_getD h'.1) (by rw [hx] at hc; exact hc) (by rw [hy] at hc'; exact hc')).mono ?_
  rintro e w' ⟨rfl, hq⟩
  exact ⟨rfl, Gr.of_quiet hq⟩

/-- The bound of the best bits. -/
theorem polAt_bd (q : Nat → Bool) (j : Nat) : -1 ≤ (polAt q j).1 ∧ (polAt q j).1 ≤ 128 := by
  induction j with
  | zero => exact ⟨by show (-1 : Int) ≤ -1; omega, by show (-1 : Int) ≤ 128; omega⟩
  | succ j ih =>
    rw [polAt]
    split
    · have := sBits_le j
      exact ⟨by show (-1 : Int) ≤ (sBits j : Nat); omega, by show ((sBits j : Nat) : Int) ≤ 128; omega⟩
    · exact ih

set_option maxHeartbeats 4000000 in
set_option maxRecDepth 100000 in
theorem specPolicy (a : Option Addr) (zs : List Int) (c : Nat) (hl : zs.length = 4 ∨ zs.length = 16) (hc : zs.length ≤ c) (w : World) (h : HoldsB w a zs) :
    Calls Tryd.prog 19 #[.slice a zs.length c] w fun e w' => e = .returned (.tuple #[.int .i64 (polAt (sHit (wide zs)) 9).2.1, .int .i64 (polAt (sHit (wide zs)) 9).2.2]) ∧ Below w.heap.size w w' := by
  have W2 : Hid (Calls Tryd.prog 20 #[.slice a zs.length c] w (WideEnd' (wide zs) w)) := wide_any a zs c hl hc w h
  have WL := Lib.hid (wide_len hl)
  generalize wide zs = ws at *
  obtain ⟨n, hn⟩ : ∃ n, n = zs.length := ⟨_, rfl⟩
  rw [← hn] at W2 ⊢
  clear hl hc h hn
  obtain ⟨q, hq⟩ : ∃ q, q = sHit ws := ⟨_, rfl⟩
  have HQ := Lib.hid hq
  rw [← hq]
  clear hq
  go_enter Tryd.func19, Tryd.ntmps19
  go_wp2_with fail
  refine W2.out.mono ?_
  rintro e w1 ⟨b, cb, rfl, hcb, hwb, bel⟩
  have B1 := Lib.hid bel
  have HW1 := Lib.hid hwb
  clear bel hwb W2
  go_wp2_with fail
  refine (specTable w1).mono ?_
  rintro e w2 ⟨tb, rfl, hg, htb, hrows⟩
  have HG2 := Lib.hid hg
  have HR := Lib.hid hrows
  have HT := Lib.hid htb
  clear hg hrows htb
  go_wp2_with fail
  go_loopw [2, 3, 6, 16] (fun s2 s3 s6 s16 wr => ∃ j : Nat, j ≤ 9 ∧ s16 = .int .i64 j ∧ s6 = .int .i64 (polAt q j).1 ∧ s2 = .int .i64 (polAt q j).2.1 ∧ s3 = .int .i64 (polAt q j).2.2 ∧ Hid (Gr w2 wr)) (fun _ _ _ s16 _ => 9 - (intOf s16).toNat)
  case atStart => exact ⟨0, by omega, rfl, rfl, rfl, rfl, Gr.refl _⟩
  case round =>
    obtain ⟨j, hj, rfl, rfl, rfl, rfl, HG⟩ := hrel
    by_cases hlt : j < 9
    · obtain ⟨ra, rc, hrc, hrh, r0, r1, r2, r3⟩ := (HR.out j hlt).gr HT.out HG.out
      have hls : tb < wr.heap.size := Nat.lt_of_lt_of_le HT.out HG.out.size
      have hi9 : (j : Int) < 9 := by omega
      have ST := Lib.hid (fun W (g : Gr wr W) => starts_holds b ra cb rc (sBits j) ws (sRow j) W (sBits_le j) WL.out (sRow_len j) ((HW1.out.gr HG2.out).gr (HG.out.trans g)) (hrh.gr g))
      have hqj : Hid (startsB ws (sRow j) (sBits j) = q j) := by show _ = _; rw [HQ.out]; rfl
      rw [hqj.out] at ST
      have SY := Lib.hid (polAt_step (q := q) (j := j))
      have SN := Lib.hid (polAt_stay (q := q) (j := j))
      obtain ⟨bd0, bd1⟩ := polAt_bd q j
      obtain ⟨m0, hm0⟩ : ∃ m : Int, m = ((sBits j : Nat) : Int) := ⟨_, rfl⟩
      obtain ⟨p0, hp0⟩ : ∃ p, p = sPrec j := ⟨_, rfl⟩
      obtain ⟨l0, hl0⟩ : ∃ l, l = sLab j := ⟨_, rfl⟩
      rw [← hm0] at r1 ST SY SN
      rw [← hp0] at r2 SY
      rw [← hl0] at r3 SY
      obtain ⟨best, hbest⟩ : ∃ x, x = polAt q j := ⟨_, rfl⟩
      rw [← hbest] at SY SN bd0 bd1 ⊢
      clear hm0 hp0 hl0 hrh hrc hbest hqj
      cases hd : decide (best.1 < m0) with
      | false =>
        rw [hd] at SN
        clear SY
        have SN' := Lib.hid (SN.out rfl)
        clear SN
        have hd' : ¬ best.1 < m0 := of_decide_eq_false hd
        clear hd
        go_wp2_with fail
        go_round
        case rel => exact ⟨j + 1, by omega, by go_num, by rw [SN'.out], by rw [SN'.out], by rw [SN'.out], HG.out.alloc _⟩
        case measure =>
          simp [intOf]
          omega
      | true =>
        have hd' : best.1 < m0 := of_decide_eq_true hd
        rw [hd] at SN SY
        clear hd
        cases hh : q j with
        | false =>
          rw [hh] at SN ST
          have SN' := Lib.hid (SN.out rfl)
          clear SN SY hh
          go_wp2_with fail
          refine (ST.out _ ((Gr.refl _).alloc _)).mono ?_
          rintro e wk ⟨rfl, hg⟩
          have HGk : Hid (Gr w2 wk) := (HG.out.alloc _).trans hg
          clear hg
          go_wp2_with fail
          go_round
          case rel => exact ⟨j + 1, by omega, by go_num, by rw [SN'.out], by rw [SN'.out], by rw [SN'.out], HGk.out⟩
          case measure =>
            simp [intOf]
            omega
        | true =>
          rw [hh] at SY ST
          have SY' := Lib.hid (SY.out rfl)
          clear SN SY hh
          go_wp2_with fail
          refine (ST.out _ ((Gr.refl _).alloc _)).mono ?_
          rintro e wk ⟨rfl, hg⟩
          obtain ⟨hck, hfk⟩ := hg.cells
          have HGk : Hid (Gr w2 wk) := (HG.out.alloc _).trans hg
          have e1 : wk.cell? ⟨wr.heap.size, 1, none⟩ = some (.int .i64 m0) := by rw [hck _ _ (by simp [go_sem])]; simp [go_sem]
          have e2 : wk.cell? ⟨wr.heap.size, 2, none⟩ = some (.int .i64 p0) := by rw [hck _ _ (by simp [go_sem])]; simp [go_sem]
          have e3 : wk.cell? ⟨wr.heap.size, 3, none⟩ = some (.int .i64 l0) := by rw [hck _ _ (by simp [go_sem])]; simp [go_sem]
          clear hg hck hfk
          go_wp2_with fail
          go_quiet (fail)
          go_wp2_with fail
          go_round
          case rel => exact ⟨j + 1, by omega, by go_num, by rw [SY'.out], by rw [SY'.out], by rw [SY'.out], by first | exact HGk.out.drewN _ | exact HGk.out.drew | exact HGk.out⟩
          case measure =>
            simp [intOf]
            omega
    · have e9 : j = 9 := by omega
      subst e9
      go_wp2_with fail
      go_ret2
      exact ⟨rfl, B1.out.trans ((HG2.out.trans HG.out).below.mono B1.out.size)⟩
end Go.Proofs.YtbejikpopealdaaDoor
