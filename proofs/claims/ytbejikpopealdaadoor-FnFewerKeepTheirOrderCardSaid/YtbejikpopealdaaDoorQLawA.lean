/-
  What the laws on Order share: the size test, the comparison of two lists of indices, impl.Order.
-/
import Derived.Test.YtbejikpopealdaaDoorQZzB
namespace Go.Proofs.YtbejikpopealdaaDoor
open Go.RowKit Go.Sort

theorem HoldsBB.below {w w' : World} {a : Option Addr} {rs : List (Option Addr × List Int × Nat)} (h : HoldsBB w a rs) (g : Below w.heap.size w w') : HoldsBB w' a rs := by
  obtain ⟨h1, h2⟩ := h
  refine ⟨fun r hr => ⟨(h1 r hr).1, (h1 r hr).2.1, (h1 r hr).2.2.below g⟩, ?_⟩
  rcases h2 with h2 | ⟨b, off, e, hb, hc⟩
  · exact Or.inl h2
  · exact Or.inr ⟨b, off, e, Nat.lt_of_lt_of_le hb g.size, fun i r hr => (g.cell (p := ⟨b, _, none⟩) hb).trans (hc i r hr)⟩

def fitsB (rs : List (Option Addr × List Int × Nat)) : Bool := decide (rs.length ≤ 2147483647) && rs.all fun r => decide (r.2.1.length ≤ 2147483647)

set_option maxHeartbeats 2000000 in
theorem zzFits_any (a : Option Addr) (rs : List (Option Addr × List Int × Nat)) (c : Nat) (w : World) (h : HoldsBB w a rs) (hc : rs.length ≤ maxLen) :
    Calls Tryd.prog 21 #[.slice a rs.length c] w fun e w' => e = .returned (.bool (fitsB rs)) ∧ w = w' := by
  obtain ⟨n, hn⟩ : ∃ n, n = rs.length := ⟨_, rfl⟩
  rw [← hn] at hc ⊢
  have HN := Lib.hid hn
  have HH := Lib.hid h
  unfold maxLen at hc
  by_cases hb : 2147483647 < n
  · have hz : (2147483647 : Int) < (n : Int) := by omega
    have e : Hid (fitsB rs = false) := by show _ = _; unfold fitsB; rw [decide_eq_false (by have := HN.out; omega)]; rfl
    clear h hn HH HN
    go_enter Tryd.func21, Tryd.ntmps21
    go_wp2
    go_ret
    exact ⟨by rw [e.out]; rfl, rfl⟩
  · have hz : ¬ (2147483647 : Int) < (n : Int) := by omega
    have FB : Hid (fitsB rs = rs.all fun r => decide (r.2.1.length ≤ 2147483647)) := by show _ = _; unfold fitsB; rw [decide_eq_true (by have := HN.out; omega)]; rfl
    have I0 : Hid (((rs.take 0).all fun r => decide (r.2.1.length ≤ 2147483647)) = true) := by show _ = _; simp
    clear h hn
    go_enter Tryd.func21, Tryd.ntmps21
    go_wp2
    go_loop [10] (fun s10 => ∃ j : Nat, s10 = .int .i64 j ∧ j ≤ n ∧ Hid (((rs.take j).all fun r => decide (r.2.1.length ≤ 2147483647)) = true)) (fun s10 => n - (intOf s10).toNat)
    case atStart => exact ⟨0, rfl, Nat.zero_le _, I0⟩
    case round =>
      clear I0
      obtain ⟨j, rfl, hj, HI⟩ := hrel
      by_cases hlt : j < n
      · obtain ⟨r, hr⟩ : ∃ r, rs[j]? = some r := ⟨rs[j]'(by have := HN.out; omega), List.getElem?_eq_getElem _⟩
        obtain ⟨b, off, rfl, hc0⟩ : ∃ b off, a = some ⟨b, off, none⟩ ∧ w.cell? ⟨b, off + j, none⟩ = some (.slice r.1 r.2.1.length r.2.2) := by
          rcases HH.out.2 with h0 | ⟨b, off, e, _, h0⟩
          · rw [h0] at hr; simp at hr
          · exact ⟨b, off, e, h0 j r hr⟩
        have hm : r.2.1.length ≤ 9223372036854775807 := by
          have := HH.out.1 r (List.mem_of_getElem? hr)
          have h2 := this.2.1
          unfold maxLen at h2
          omega
        have HR := Lib.hid hr
        have hltz : (j : Int) < (n : Int) := by omega
        clear hr
        by_cases hf : 2147483647 < r.2.1.length
        · have hfz : (2147483647 : Int) < (r.2.1.length : Int) := by omega
          have e : Hid (fitsB rs = false) := by
            show _ = _
            rw [FB.out, List.all_eq_false]
            exact ⟨r, List.mem_of_getElem? HR.out, by simpa using hf⟩
          clear HR
          generalize r.2.1.length = m at *
          go_wp2
          go_ret
          exact ⟨by rw [e.out]; rfl, rfl⟩
        · have hfz : ¬ (2147483647 : Int) < (r.2.1.length : Int) := by omega
          have e : Hid (((rs.take (j + 1)).all fun r => decide (r.2.1.length ≤ 2147483647)) = true) := by
            show _ = _
            rw [List.take_add_one, HR.out, List.all_append, HI.out]
            simp; omega
          clear HR
          generalize r.2.1.length = m at *
          go_wp2
          go_round
          case rel => exact ⟨j + 1, by go_num, hlt, e⟩
          case measure => simp [intOf]; omega
      · have hltz : ¬ (j : Int) < (n : Int) := by omega
        have e : Hid (fitsB rs = true) := by
          show _ = _
          have := HI.out
          rw [List.take_of_length_le (by have := HN.out; omega)] at this
          rw [FB.out]; exact this
        go_wp2
        go_ret
        exact ⟨by rw [e.out]; rfl, rfl⟩

/-! ### same -/
def sameB (xs ys : List Nat) : Bool := decide (xs = ys)

set_option maxHeartbeats 2000000 in
set_option maxRecDepth 100000 in
theorem same_any (v v' : Value) (xs ys : List Nat) (w : World) (h : HoldsI w v xs) (h' : HoldsI w v' ys) (hx : xs.length ≤ 1000000) (hy : ys.length ≤ 1000000) :
    Calls Tryd.prog 24 #[v, v'] w fun e w' => e = .returned (.bool (sameB xs ys)) ∧ ∃ k, w' = w.drewN k := by
  obtain ⟨a, c, rfl, _, h1⟩ := h
  obtain ⟨a', c', rfl, _, h2⟩ := h'
  obtain ⟨n, hn⟩ : ∃ n, n = xs.length := ⟨_, rfl⟩
  obtain ⟨m, hm⟩ : ∃ m, m = ys.length := ⟨_, rfl⟩
  rw [← hn] at hx ⊢
  rw [← hm] at hy ⊢
  have HN := Lib.hid hn
  have HM := Lib.hid hm
  have H1 := Lib.hid h1
  have H2 := Lib.hid h2
  by_cases e : n = m
  · obtain rfl := e
    have I0 : Hid (xs.take 0 = ys.take 0) := by show _ = _; simp
    have nn : ((n : Int) != (n : Int)) = false := by simp
    clear h1 h2 hn hm
    go_enter Tryd.func24, Tryd.ntmps24
    go_wp2
    go_loopw [13] (fun s13 wr => ∃ j k : Nat, s13 = .int .i64 j ∧ j ≤ n ∧ wr = w.drewN k ∧ Hid (xs.take j = ys.take j)) (fun s13 _ => n - (intOf s13).toNat)
    case atStart => exact ⟨0, 0, rfl, Nat.zero_le _, rfl, I0⟩
    case round =>
      clear I0
      obtain ⟨j, k, rfl, hj, rfl, HI⟩ := hrel
      by_cases hlt : j < n
      · obtain ⟨x, hxj⟩ : ∃ x, xs[j]? = some x := ⟨xs[j]'(by have := HN.out; omega), List.getElem?_eq_getElem _⟩
        obtain ⟨y, hyj⟩ : ∃ y, ys[j]? = some y := ⟨ys[j]'(by have := HM.out; omega), List.getElem?_eq_getElem _⟩
        obtain ⟨b, off, rfl, hc1⟩ : ∃ b off, a = some ⟨b, off, none⟩ ∧ w.cell? ⟨b, off + j, none⟩ = some (.int .i64 (x : Int)) := by
          rcases H1.out with h0 | ⟨b, off, e, _, h0⟩
          · rw [h0] at hxj; simp at hxj
          · exact ⟨b, off, e, h0 j x hxj⟩
        obtain ⟨b', off', rfl, hc2⟩ : ∃ b off, a' = some ⟨b, off, none⟩ ∧ w.cell? ⟨b, off + j, none⟩ = some (.int .i64 (y : Int)) := by
          rcases H2.out with h0 | ⟨b, off, e, _, h0⟩
          · rw [h0] at hyj; simp at hyj
          · exact ⟨b, off, e, h0 j y hyj⟩
        have HX := Lib.hid (And.intro hxj hyj)
        have hltz : (j : Int) < (n : Int) := by omega
        have jz0 : (0 : Int) ≤ (j : Int) := by omega
        clear hxj hyj
        by_cases hf : x = y
        · have hfz : ((x : Int) != (y : Int)) = false := by simp [hf]
          have e : Hid (xs.take (j + 1) = ys.take (j + 1)) := by
            show _ = _
            rw [List.take_add_one, List.take_add_one, HX.out.1, HX.out.2, HI.out, hf]
          clear hf HX
          go_wp2_with fail
          go_quiet (fail)
          go_wp2
          go_roundw
          case rel => exact ⟨j + 1, _, by go_num, hlt, rfl, e⟩
          case measure => simp [intOf]; omega
        · have hfz : ((x : Int) != (y : Int)) = true := by rw [bne_iff_ne]; omega
          have e : Hid (sameB xs ys = false) := by
            show _ = _
            refine decide_eq_false fun h => hf ?_
            have := HX.out.1
            rw [h, HX.out.2] at this
            exact (Option.some.inj this).symm
          clear hf HX
          go_wp2_with fail
          go_quiet (fail)
          go_wp2
          go_ret
          exact ⟨by rw [e.out]; rfl, _, World.drewN_drewN _ _ _⟩
      · have hltz : ¬ (j : Int) < (n : Int) := by omega
        have e : Hid (sameB xs ys = true) := by
          show _ = _
          have := HI.out
          rw [List.take_of_length_le (by have := HN.out; omega), List.take_of_length_le (by have := HM.out; omega)] at this
          exact decide_eq_true this
        go_wp2
        go_ret
        exact ⟨by rw [e.out]; rfl, _, rfl⟩
  · have ne : ((n : Int) != (m : Int)) = true := by rw [bne_iff_ne]; omega
    have e2 : Hid (sameB xs ys = false) := by
      show _ = _
      refine decide_eq_false fun h => e ?_
      rw [hn, hm, h]
    clear h1 h2 hn hm e HN HM H1 H2
    go_enter Tryd.func24, Tryd.ntmps24
    go_wp2
    go_ret
    exact ⟨by rw [e2.out]; rfl, 0, rfl⟩

/-! ### Order -/
set_option maxHeartbeats 2000000 in
set_option maxRecDepth 100000 in
theorem sortBy_nil (p4 p6 : Addr) (w : World) (N : Net p4 p6 w) :
    Calls Tryd.prog 43 #[.slice none 0 0, .slice none 0 0] w fun e w' => e = .returned (.tuple #[]) ∧ Below w.heap.size w w' := by
  obtain ⟨i97, hi97, hz97, hs97, hb97⟩ := info_parts info97
  have hmk : (Instr.makeSlice 92 (.int .i64 0) (.int .i64 0)).run Tryd.prog w = .ok (.slice (some ⟨w.heap.size, 0, none⟩) 0 0) (w.alloc (.cells (madeCells (Value.agg zeroV.toArray).cells 0) 97)) := by
    have := run_make (P := Tryd.prog) w 92 97 i97 (.agg zeroV.toArray) Tryd.underlying92 hi97 hz97 .i64 .i64 0 0 (by omega) (Int.le_refl _) (by rw [hb97]; omega) (by omega)
    rw [hs97] at this
    exact this
  have HK0 : HoldsK (encS p4 p6 znS []) 11 (w.alloc (.cells (madeCells (Value.agg zeroV.toArray).cells 0) 97)) w.heap.size 0 (Array.range 0) := fun t ht => by simp at ht
  have e61 : ∀ args w, (callFunc 61 args).run Tryd.prog w = .ok (.enter 61 args) w := enters_of Tryd.func61 rfl rfl
  have HS := Lib.hid (sort_call p4 p6 [] 0 rfl (by omega) w (w.alloc (.cells (madeCells (Value.agg zeroV.toArray).cells 0) 97)) N (fun r hr => by cases hr) ((Gr.refl w).alloc _) (by simp) HK0 e61)
  clear HK0 N hi97 hz97 hs97 hb97
  generalize w.alloc (.cells (madeCells (Value.agg zeroV.toArray).cells 0) 97) = w1 at *
  go_enter Tryd.func43, Tryd.ntmps43
  go_wp2
  go_loopg [21] 0 (fun kx s21 wr => s21 = .int .i64 0 ∧ wr = w1)
  case atStart => exact ⟨rfl, rfl⟩
  case round =>
    obtain ⟨rfl, rfl⟩ := hrel
    go_wp2_with (go_at_call 60; refine HS.out.mono ?_; rintro e w2 ⟨rfl, xs, hxs, hk2, hg2⟩; have HG2 := Lib.hid hg2; clear hxs hk2 hg2)
    go_loopg [56] 0 (fun kx s56 wr => s56 = .int .i64 0 ∧ wr = w2)
    case atStart => exact ⟨rfl, rfl⟩
    case round =>
      obtain ⟨rfl, rfl⟩ := hrel
      go_wp2
      go_end0
      exact ⟨rfl, HG2.out.below⟩

set_option maxHeartbeats 2000000 in
set_option maxRecDepth 100000 in
theorem zzOrder_nil (p4 p6 : Addr) (a a' : Option Addr) (c c' : Nat) (w : World) (N : Net p4 p6 w) :
    Calls Tryd.prog 33 #[.slice a 0 c, .slice a' 0 c'] w (OrdEnd [] 0 w) := by
  have HS := Lib.hid (sortBy_nil p4 p6 w N)
  clear N
  go_enter Tryd.func33, Tryd.ntmps33
  go_wp2
  go_loopg [5, 20] 0 (fun kx s5 s20 wr => s5 = .slice none 0 0 ∧ s20 = .int .i64 0 ∧ wr = w)
  case atStart => exact ⟨rfl, rfl, rfl⟩
  case round =>
    obtain ⟨rfl, rfl, rfl⟩ := hrel
    go_wp2
    go_loopg [8, 36] 0 (fun kx s8 s36 wr2 => s8 = .slice none 0 0 ∧ s36 = .int .i64 0 ∧ wr2 = wr)
    case atStart => exact ⟨rfl, rfl, rfl⟩
    case round =>
      obtain ⟨rfl, rfl, rfl⟩ := hrel
      go_wp2_with (go_at_call 43; refine HS.out.mono ?_; rintro e w3 ⟨rfl, hb⟩; have HB := Lib.hid hb; clear hb)
      go_loopg [13, 55] 0 (fun kx s13 s55 wr2 => s13 = .slice none 0 0 ∧ s55 = .int .i64 0 ∧ wr2 = w3)
      case atStart => exact ⟨rfl, rfl, rfl⟩
      case round =>
        obtain ⟨rfl, rfl, rfl⟩ := hrel
        go_wp2
        go_ret
        exact ⟨_, [], [], rfl, rfl, ⟨List.Perm.refl _, List.Pairwise.nil⟩, ⟨none, 0, rfl, Nat.le_refl _, Or.inl rfl⟩, (fun k hk => by cases hk), HB.out⟩

theorem OrdEnd.form {PA : List (List Int × List Int)} {n : Nat} {w w' : World} {e : Ending} (h : OrdEnd PA n w e w') :
    ∃ (a : Option Addr) (c : Nat) (xs : List Nat) (I : List Dst), e = .returned (.slice a n c) ∧ I.map (fun r : Dst => (r.2.2.1, r.2.2.2)) = PA ∧ Ordd (cfI I) n xs ∧ xs.length = n ∧ HoldsI w' (.slice a n c) xs ∧ (∀ k, (Value.slice a n c).ownBlock = some k → w.heap.size ≤ k) ∧ Below w.heap.size w w' := by
  obtain ⟨v, xs, I, rfl, h1, h2, h3, h4, h5⟩ := h
  have hl : xs.length = n := by have := h2.1.length_eq; simpa using this
  obtain ⟨a, c, rfl, h6, h7⟩ := h3
  rw [hl] at h4 ⊢
  exact ⟨a, c, xs, I, rfl, h1, h2, hl, ⟨a, c, by rw [hl], h6, h7⟩, h4, h5⟩
/-- What is read at a place of such a slice. -/
theorem HoldsI.at {w : World} {a : Option Addr} {n c : Nat} {xs : List Nat} (h : HoldsI w (.slice a n c) xs) {j x : Nat} (hx : xs[j]? = some x) : ∃ b off, a = some ⟨b, off, none⟩ ∧ w.cell? ⟨b, off + j, none⟩ = some (.int .i64 (x : Int)) := by
  obtain ⟨a', c', e, _, h2⟩ := h
  cases e
  rcases h2 with h0 | ⟨b, off, e, _, h0⟩
  · rw [h0] at hx; simp at hx
  · exact ⟨b, off, e, h0 j x hx⟩
/-- The bytes of the destinations beside those of their sources. -/
def pairsB (rA rS : List (Option Addr × List Int × Nat)) : List (List Int × List Int) := (rA.map (·.2.1)).zip (rS.map (·.2.1))
theorem zzOrder_any (p4 p6 : Addr) (a a' : Option Addr) (rA rS : List (Option Addr × List Int × Nat)) (c c' n : Nat) (hA : rA.length = n) (hS : rS.length = n) (hn1 : n ≤ 1000) (w : World) (E : EnvO p4 p6 w) (HA : HoldsBB w a rA) (HS : HoldsBB w a' rS) (KA : ∀ r ∈ rA, isB r.2.1 = true) :
    Calls Tryd.prog 33 #[.slice a n c, .slice a' n c'] w (OrdEnd (pairsB rA rS) n w) := by
  by_cases h0 : n = 0
  · subst h0
    have : rA = [] := List.eq_nil_of_length_eq_zero hA
    subst this
    exact zzOrder_nil p4 p6 a a' c c' w E.net
  · rcases HA.2 with hh | ⟨b, off, rfl, hb, hc⟩
    · rw [hh] at hA; simp at hA; omega
    rcases HS.2 with hh | ⟨b', off', rfl, hb', hc'⟩
    · rw [hh] at hS; simp at hS; omega
    exact zzOrder_some p4 p6 b off b' off' c c' n rA rS hA hS (by omega) hn1 w E (fun r hr => ⟨KA r hr, (HA.1 r hr).2.2⟩) (fun r hr => (HS.1 r hr).2.2) hb hb' hc hc'

set_option maxHeartbeats 1000000 in
theorem implOrder (p4 p6 : Addr) (a a' : Option Addr) (rA rS : List (Option Addr × List Int × Nat)) (c c' n : Nat) (hA : rA.length = n) (hS : rS.length = n) (hn1 : n ≤ 1000) (w : World) (E : EnvO p4 p6 w) (HA : HoldsBB w a rA) (HS : HoldsBB w a' rS) (KA : ∀ r ∈ rA, isB r.2.1 = true) :
    Calls Tryd.prog 22 #[.slice a n c, .slice a' n c'] w (OrdEnd (pairsB rA rS) n w) := by
  have Z := Lib.hid (zzOrder_any p4 p6 a a' rA rS c c' n hA hS hn1 w E HA HS KA)
  clear hA hS E HA HS KA
  go_enter Tryd.func22, Tryd.ntmps22
  go_wp2_with (go_at_call 33; refine Z.out.mono ?_; rintro e w3 ⟨v, xs, I, rfl, h1, h2, h3, h4, h5⟩; have HH := Lib.hid (And.intro h1 (And.intro h2 (And.intro h3 (And.intro h4 h5)))); clear h1 h2 h3 h4 h5)
  go_ret
  exact ⟨v, xs, I, rfl, HH.out⟩
end Go.Proofs.YtbejikpopealdaaDoor
