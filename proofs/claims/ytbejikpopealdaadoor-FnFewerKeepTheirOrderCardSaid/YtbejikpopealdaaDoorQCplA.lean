/-
  commonPrefixLen of the package, at a destination of IPv6 and a source of IPv6 or of IPv4.
-/
import Derived.Test.YtbejikpopealdaaDoorQSpecA
import Derived.Deep.LoopGhost
namespace Go.Proofs.YtbejikpopealdaaDoor
open Go.RowKit

theorem HoldsB.byt {w : World} {a : Option Addr} {zs : List Int} (h : HoldsB w a zs) (i : Nat) : Byt (zs.getD i 0) := by
  rcases Nat.lt_or_ge i zs.length with hi | hi
  · rw [List.getD_eq_getElem?_getD, List.getElem?_eq_getElem hi]; exact h.1 _ (List.getElem_mem hi)
  · rw [List.getD_eq_getElem?_getD, List.getElem?_eq_none hi]; exact ⟨by simp, by simp⟩

/-- The length in a slot. -/
def lenOf : Value → Nat | .slice _ n _ => n | _ => 0

/-- The inner loop of commonPrefixLen: two bytes that part, shifted t times. -/
def CplIn (j : Nat) (x y : Int) (s4 s7 s8 s9 : Value) : Prop :=
  ∃ (t : Nat) (xt yt : Int), t < 8 ∧ s4 = .int .i64 (8 * (j : Int)) ∧ s7 = .int .i64 (8 - (t : Int)) ∧ s8 = .int .u8 xt ∧ s9 = .int .u8 yt ∧ 0 ≤ xt ∧ xt < 256 ∧ 0 ≤ yt ∧ yt < 256 ∧ Hid (xt = x / (2 ^ t : Nat) ∧ yt = y / (2 ^ t : Nat) ∧ xt ≠ yt)

theorem div_pow_succ (x : Int) (t : Nat) : (x / (2 ^ t : Nat)) / 2 = x / (2 ^ (t + 1) : Nat) := by
  rw [Nat.pow_succ, Int.natCast_mul, ← Int.ediv_ediv_of_nonneg (Int.natCast_nonneg _)]
  rfl

theorem to4_no (b off c : Nat) (hcap : 16 ≤ c) (zs : List Int) (h : zs.length = 16) (hm : mapd zs = false) (w : World)
    (hc : ∀ i, i < zs.length → w.cell? ⟨b, off + i, none⟩ = some (.int .u8 (zs.getD i 0))) :
    Calls Tryd.prog 47 #[.slice (some ⟨b, off, none⟩) 16 c] w fun e w' => e = .returned (.slice none 0 0) ∧ w = w' := by
  have := to4_16 b off c hcap zs h w hc
  rw [hm] at this
  exact this

set_option maxHeartbeats 2000000 in
set_option maxRecDepth 100000 in
theorem cplLen_66 (p4 p6 : Addr) (hi lo : Int) (hi0 : 0 ≤ hi) (hi1 : hi < 18446744073709551616) (lo0 : 0 ≤ lo) (lo1 : lo < 18446744073709551616) (b off c : Nat) (hcap : 16 ≤ c) (zs : List Int) (hl : zs.length = 16) (hm : mapd zs = false)
    (w : World) (N : Net p4 p6 w) (h : HoldsB w (some ⟨b, off, none⟩) zs) :
    Calls Tryd.prog 37 #[.agg #[.int .u64 hi, .int .u64 lo, .pointer (some p6)], .slice (some ⟨b, off, none⟩) 16 c] w fun e w' => e = .returned (.int .i64 (cplN (bytes16 hi lo) zs)) ∧ Gr w w' := by
  obtain ⟨xs, hxs⟩ : ∃ xs, xs = bytes16 hi lo := ⟨_, rfl⟩
  rw [← hxs]
  have HXS := Lib.hid hxs
  clear hxs
  have NA := Lib.hid (N.alloc (.cells #[.int .u64 hi, .int .u64 lo, .pointer (some p6)] 55))
  have HA := Lib.hid (h.gr ((Gr.refl w).alloc (.cells #[.int .u64 hi, .int .u64 lo, .pointer (some p6)] 55)))
  have V := Lib.hid (And.intro hi0 (And.intro hi1 (And.intro lo0 lo1)))
  have HL := Lib.hid hl
  obtain ⟨_, h2⟩ := h
  rcases h2 with rfl | ⟨b1, off1, e1, hb, C⟩
  · simp at hl
  cases e1
  have T4 := Lib.hid (fun W hc => to4_no b off c hcap zs hl hm W hc)
  have C' := Lib.hid (fun i hi' => (Gr.refl w).alloc (.cells #[.int .u64 hi, .int .u64 lo, .pointer (some p6)] 55) |>.cell (p := ⟨b, off + i, none⟩) hb (C i hi'))
  clear N C hi0 hi1 lo0 lo1 hl hm
  go_enter Tryd.func37, Tryd.ntmps37
  go_wp2_with (first
    | (go_at_call 47; refine (T4.out _ C'.out).mono ?_; rintro e w' ⟨rfl, rfl⟩)
    | (go_at_call 48; refine (asSlice_16 p4 p6 hi lo V.out.1 V.out.2.1 V.out.2.2.1 V.out.2.2.2 _ NA.out).mono ?_; rintro e w1 ⟨rfl, hg, hh⟩; have HG := Lib.hid hg; have HH := Lib.hid hh; clear hg hh))
  have DA : Hid (∀ i, i < 8 → w1.cell? ⟨w.heap.size + 1 + 1, i, none⟩ = some (.int .u8 (xs.getD i 0))) := fun i hi' => by
    rw [HXS.out]
    obtain ⟨_, h3⟩ := HH.out
    rcases h3 with h3 | ⟨b2, off2, e2, _, C2⟩
    · simp [bytes16] at h3
    · cases e2
      have := C2 i (by simp [bytes16]; omega)
      simpa using this
  have DB : Hid (∀ i, i < 8 → w1.cell? ⟨b, off + i, none⟩ = some (.int .u8 (zs.getD i 0))) := fun i hi' =>
    HG.out.cell (p := ⟨b, off + i, none⟩) (by show b < _; simp; omega) (C'.out i (by rw [HL.out]; omega))
  have BA : Hid (∀ i, Byt (xs.getD i 0)) := fun i => by rw [HXS.out]; exact HH.out.byt i
  have BB : Hid (∀ i, Byt (zs.getD i 0)) := fun i => HA.out.byt i
  have HG2 : Hid (Gr w w1) := ((Gr.refl w).alloc _).trans HG.out
  clear HG HH T4 C' HL NA HA hb V
  go_loopw [1, 4, 6] (fun s1 s4 s6 wr => ∃ j m cc q : Nat, j + m = 8 ∧ j + cc = c ∧ s1 = .slice (some ⟨b, off + j, none⟩) m cc ∧ s4 = .int .i64 (8 * (j : Int)) ∧ s6 = .slice (some ⟨w.heap.size + 1 + 1, j, none⟩) m (m + 8) ∧ wr = w1.drewN q ∧ Hid (∀ i, i < j → xs.getD i 0 = zs.getD i 0)) (fun _ _ s6 _ => lenOf s6)
  case atStart => exact ⟨0, 8, c, 0, rfl, by omega, rfl, rfl, rfl, rfl, fun i hi' => by omega⟩
  case round =>
    obtain ⟨j, m, cc, q, hjm, hjc, rfl, rfl, rfl, rfl, HE⟩ := hrel
    have JM := Lib.hid hjm
    have JC := Lib.hid hjc
    cases m with
    | zero =>
      have HF := Lib.hid (cpl_all xs zs (fun i hi' => HE.out i (by omega)))
      have hj : j = 8 := by omega
      have HJ := Lib.hid hj
      clear hjm hjc hj
      go_wp2
      go_ret
      exact ⟨ret_int (by rw [HJ.out, ← HF.out]; rfl), HG2.out.drewN _⟩
    | succ m =>
      have hc9 : 9 ≤ cc := by omega
      have j8 : j < 8 := by omega
      have c1 := DA.out j j8
      have c2 := DB.out j j8
      obtain ⟨x, hx⟩ : ∃ x, x = xs.getD j 0 := ⟨_, rfl⟩
      obtain ⟨y, hy⟩ : ∃ y, y = zs.getD j 0 := ⟨_, rfl⟩
      rw [← hx] at c1
      rw [← hy] at c2
      have HX := Lib.hid hx
      have HY := Lib.hid hy
      clear hx hy hjm hjc
      by_cases he : x = y
      · have hb : (x == y) = true := beq_iff_eq.2 he
        have HE' : Hid (∀ i, i < j + 1 → xs.getD i 0 = zs.getD i 0) := fun i hi' => by
          rcases Nat.lt_or_ge i j with h | h
          · exact HE.out i h
          · have : i = j := by omega
            subst this; rw [← HX.out, ← HY.out]; exact he
        clear he
        go_wp2_with fail
        go_quiet (fail)
        go_wp2
        go_roundw
        case rel => exact ⟨j + 1, m, cc - 1, _, by have := JM.out; omega, by have := JC.out; omega, rfl, by go_num, rfl, rfl, HE'⟩
        case measure => show m < m + 1; omega
      · have hb : (x == y) = false := beq_eq_false_iff_ne.2 he
        have HNE := Lib.hid he
        clear he
        obtain ⟨x0, x1⟩ : Byt x := by rw [HX.out]; exact BA.out j
        obtain ⟨y0, y1⟩ : Byt y := by rw [HY.out]; exact BB.out j
        go_wp2_with fail
        go_quiet (fail)
        go_wp2_with fail
        go_quiet (fail)
        go_wp2_with fail
        go_loop [4, 7, 8, 9] (CplIn j x y) (fun _ s7 _ _ => (intOf s7).toNat)
        case atStart => exact ⟨0, x, y, by omega, rfl, rfl, rfl, rfl, x0, x1, y0, y1, by show _ ∧ _ ∧ _; exact ⟨by simp, by simp, HNE.out⟩⟩
        case round =>
          obtain ⟨t, xt, yt, ht, rfl, rfl, rfl, rfl, xt0, xt1, yt0, yt1, HT⟩ := hrel
          by_cases h2 : xt / 2 = yt / 2
          · have hb2 : (xt / 2 == yt / 2) = true := beq_iff_eq.2 h2
            have HF : Hid (8 * j + (7 - t) = cplN xs zs) := by
              show _ = _
              obtain ⟨a1, a2, a3⟩ := HT.out
              refine cpl_at xs zs j t j8 ht HE.out ?_ ?_
              · rw [← HX.out, ← HY.out, ← div_pow_succ, ← div_pow_succ, ← a1, ← a2]; exact h2
              · rw [← HX.out, ← HY.out, ← a1, ← a2]; exact a3
            clear h2
            go_wp2
            go_ret
            exact ⟨ret_int (by rw [← HF.out]; omega), HG2.out.drewN _⟩
          · have hb2 : (xt / 2 == yt / 2) = false := beq_eq_false_iff_ne.2 h2
            have ht7 : t + 1 < 8 := by
              rcases Nat.lt_or_ge (t + 1) 8 with h | h
              · exact h
              · exfalso
                have : t = 7 := by omega
                subst this
                obtain ⟨a1, a2, _⟩ := HT.out
                simp at a1 a2
                omega
            have HT' : Hid (xt / 2 = x / (2 ^ (t + 1) : Nat) ∧ yt / 2 = y / (2 ^ (t + 1) : Nat) ∧ xt / 2 ≠ yt / 2) := by
              show _ ∧ _ ∧ _
              obtain ⟨a1, a2, _⟩ := HT.out
              exact ⟨by rw [← div_pow_succ, ← a1], by rw [← div_pow_succ, ← a2], h2⟩
            clear h2
            go_wp2
            go_round
            case rel => exact ⟨_, _, _, _, ⟨t + 1, xt / 2, yt / 2, ht7, rfl, rfl, rfl, rfl, by omega, by omega, by omega, by omega, HT'⟩, rfl, by go_num, rfl, rfl⟩
            case measure => simp [intOf]; omega

set_option maxHeartbeats 2000000 in
set_option maxRecDepth 100000 in
theorem cplLen_46 (p4 p6 : Addr) (hi lo : Int) (b off c : Nat) (hcap : 16 ≤ c) (zs : List Int) (hl : zs.length = 16) (hm : mapd zs = false)
    (w : World) (N : Net p4 p6 w) (h : HoldsB w (some ⟨b, off, none⟩) zs) :
    Calls Tryd.prog 37 #[.agg #[.int .u64 hi, .int .u64 lo, .pointer (some p4)], .slice (some ⟨b, off, none⟩) 16 c] w fun e w' => e = .returned (.int .i64 0) ∧ Gr w w' := by
  have NA := Lib.hid (N.alloc (.cells #[.int .u64 hi, .int .u64 lo, .pointer (some p4)] 55))
  obtain ⟨_, h2⟩ := h
  rcases h2 with rfl | ⟨b1, off1, e1, hb, C⟩
  · simp at hl
  cases e1
  have T4 := Lib.hid (fun W hc => to4_no b off c hcap zs hl hm W hc)
  have C' := Lib.hid (fun i hi' => (Gr.refl w).alloc (.cells #[.int .u64 hi, .int .u64 lo, .pointer (some p4)] 55) |>.cell (p := ⟨b, off + i, none⟩) hb (C i hi'))
  clear N C hl hm
  go_enter Tryd.func37, Tryd.ntmps37
  go_wp2_with (first
    | (go_at_call 47; refine (T4.out _ C'.out).mono ?_; rintro e w' ⟨rfl, rfl⟩)
    | (go_at_call 48; refine (asSlice_4 p4 p6 hi lo _ NA.out).mono ?_; rintro e w1 ⟨rfl, hg, hh⟩; have HG := Lib.hid hg; clear hg hh))
  go_ret
  exact ⟨rfl, ((Gr.refl w).alloc _).trans HG.out⟩
end Go.Proofs.YtbejikpopealdaaDoor
