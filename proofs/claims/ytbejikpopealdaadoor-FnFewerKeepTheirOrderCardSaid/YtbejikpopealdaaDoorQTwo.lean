/-
  laws.FnTwo, walked: whatever the four slices of bytes, the call returns true and nothing that was there has turned.
-/
import Derived.Test.YtbejikpopealdaaDoorQSpecJ
namespace Go.Proofs.YtbejikpopealdaaDoor
open Go.RowKit Go.Sort

/-! ### the plain law -/
theorem ordd_01 {cf : Nat → Nat → Int} (h : cf 0 1 ≤ 0) : Ordd cf 2 [0, 1] := by
  refine ⟨List.Perm.refl _, List.pairwise_cons.2 ⟨fun x hx => ?_, List.pairwise_singleton _ _⟩⟩
  obtain rfl := List.mem_singleton.1 hx
  rcases Int.lt_or_eq_of_le h with h | h
  · exact Or.inl h
  · exact Or.inr ⟨h, by decide⟩
theorem ordd_10 {cf : Nat → Nat → Int} (P : Pre cf) (h : 0 < cf 0 1) : Ordd cf 2 [1, 0] := by
  refine ⟨List.Perm.swap _ _ _, List.pairwise_cons.2 ⟨fun x hx => ?_, List.pairwise_singleton _ _⟩⟩
  obtain rfl := List.mem_singleton.1 hx
  exact Or.inl ((P.anti 1 0).2 h)
/-- Two rows that the call has laid. -/
theorem two_rows {W : World} {g : Nat} {r r' : Option Addr × List Int × Nat} (hg : W.heap[g]? = some (.cells #[.slice r.1 r.2.1.length r.2.2, .slice r'.1 r'.2.1.length r'.2.2] 22 (0, 0))) (h1 : r.2.1.length ≤ r.2.2 ∧ r.2.2 ≤ maxLen ∧ HoldsB W r.1 r.2.1) (h2 : r'.2.1.length ≤ r'.2.2 ∧ r'.2.2 ≤ maxLen ∧ HoldsB W r'.1 r'.2.1) :
    HoldsBB W (some ⟨g, 0, none⟩) [r, r'] := by
  refine ⟨fun q hq => ?_, Or.inr ⟨g, 0, rfl, blk_lt hg, fun i q hq => ?_⟩⟩
  · simp only [List.mem_cons, List.not_mem_nil, or_false] at hq
    rcases hq with rfl | rfl
    · exact h1
    · exact h2
  · rw [Nat.zero_add, cell_of_row W g i _ 22 (0, 0) hg]
    match i with
    | 0 => simp at hq; subst hq; rfl
    | 1 => simp at hq; subst hq; rfl
    | i + 2 => simp at hq
theorem two_ints {W : World} {g : Nat} {x y : Nat} (hg : W.heap[g]? = some (.cells #[.int .i64 (x : Int), .int .i64 (y : Int)] 3 (0, 0))) : HoldsI W (.slice (some ⟨g, 0, none⟩) 2 2) [x, y] := by
  refine ⟨_, 2, rfl, Nat.le_refl _, Or.inr ⟨g, 0, rfl, blk_lt hg, fun i q hq => ?_⟩⟩
  rw [Nat.zero_add, cell_of_row W g i _ 3 (0, 0) hg]
  match i with
  | 0 => simp at hq; subst hq; rfl
  | 1 => simp at hq; subst hq; rfl
  | i + 2 => simp at hq

theorem alloc_heap (W : World) (o : Obj) : (W.alloc o).heap = W.heap.push o := rfl
theorem alloc_size (W : World) (o : Obj) : (W.alloc o).heap.size = W.heap.size + 1 := by rw [alloc_heap, Array.size_push]
theorem alloc_top (W : World) (o : Obj) (n : Nat) (h : n = W.heap.size) : (W.alloc o).heap[n]? = some o := by
  rw [alloc_heap, Array.getElem?_push, if_pos h]
theorem alloc_old (W : World) (o : Obj) (n : Nat) (h : n < W.heap.size) : (W.alloc o).heap[n]? = W.heap[n]? := by
  rw [alloc_heap, Array.getElem?_push, if_neg (by omega)]
/-- Two blocks, or four, that the call has laid on top. -/
theorem laid2 (w wc : World) (g : Below w.heap.size w wc) (o1 o2 : Obj) (W : World) (hW : W = (wc.alloc o1).alloc o2) :
    Below w.heap.size w W ∧ W.heap[wc.heap.size]? = some o1 ∧ W.heap[wc.heap.size + 1]? = some o2 ∧ W.heap.size = wc.heap.size + 1 + 1 := by
  subst hW
  have hz := g.size
  refine ⟨(g.alloc hz _).alloc (Nat.le_trans hz (by rw [alloc_size]; omega)) _, ?_, ?_, by rw [alloc_size, alloc_size]⟩
  · rw [alloc_old _ _ _ (by rw [alloc_size]; omega), alloc_top _ _ _ rfl]
  · rw [alloc_top _ _ _ (by rw [alloc_size])]
theorem laid3 (w wc : World) (g : Below w.heap.size w wc) (o1 o2 o3 : Obj) (W : World) (hW : W = ((wc.alloc o1).alloc o2).alloc o3) :
    Below w.heap.size w W ∧ W.heap[wc.heap.size]? = some o1 ∧ W.heap[wc.heap.size + 1]? = some o2 ∧ W.heap[wc.heap.size + 1 + 1]? = some o3 ∧ W.heap.size = wc.heap.size + 1 + 1 + 1 := by
  subst hW
  obtain ⟨a1, a2, a3, a4⟩ := laid2 w wc g o1 o2 _ rfl
  refine ⟨a1.alloc a1.size _, ?_, ?_, ?_, by rw [alloc_size, a4]⟩
  · rw [alloc_old _ _ _ (by omega), a2]
  · rw [alloc_old _ _ _ (by omega), a3]
  · rw [alloc_top _ _ _ a4.symm]
theorem laid4 (w wc : World) (g : Below w.heap.size w wc) (o1 o2 o3 o4 : Obj) (W : World) (hW : W = (((wc.alloc o1).alloc o2).alloc o3).alloc o4) :
    Below w.heap.size w W ∧ W.heap[wc.heap.size + 1]? = some o2 ∧ W.heap[wc.heap.size + 1 + 1]? = some o3 ∧ W.heap[wc.heap.size + 1 + 1 + 1]? = some o4 ∧ W.heap.size = wc.heap.size + 1 + 1 + 1 + 1 := by
  subst hW
  obtain ⟨a1, a2, a3, a4, a5⟩ := laid3 w wc g o1 o2 o3 _ rfl
  refine ⟨a1.alloc a1.size _, ?_, ?_, ?_, by rw [alloc_size, a5]⟩
  · rw [alloc_old _ _ _ (by omega), a3]
  · rw [alloc_old _ _ _ (by omega), a4]
  · rw [alloc_top _ _ _ a5.symm]

theorem two_end {PA : List (List Int × List Int)} {w W w6 : World} {e : Ending} {ys : List Nat} {k : Nat} {o : Obj} (hO : Ordd (cfP PA) 2 ys) (L : Below w.heap.size w W) (hw : w.heap.size ≤ W.heap.size)
    (ho : W.heap[k]? = some o) (h : OrdEnd PA 2 W e w6) : ∃ av cv, e = .returned (.slice av 2 cv) ∧ HoldsI w6 (.slice av 2 cv) ys ∧ Below w.heap.size w w6 ∧ w6.heap[k]? = some o := by
  obtain ⟨av, cv, xs, I, rfl, r1, r2, r6, r3, r4, r5⟩ := h.form
  obtain rfl : xs = ys := Ordd.unique (cfP_pre PA) (by rwa [cfI_P r1] at r2) hO
  exact ⟨av, cv, rfl, r3, L.trans (r5.mono hw), by rw [r5.block k (blk_lt ho), ho]⟩

set_option maxHeartbeats 2000000 in
theorem two_big (a0 a1 a2 a3 : Option Addr) (n0 n1 n2 n3 c0 c1 c2 c3 : Nat) (w : World) (h : 2147483647 < n0 ∨ 2147483647 < n1 ∨ 2147483647 < n2 ∨ 2147483647 < n3) :
    Calls Tryd.prog 10 #[.slice a0 n0 c0, .slice a1 n1 c1, .slice a2 n2 c2, .slice a3 n3 c3] w fun e w' => e = .returned (.bool true) ∧ Below w.heap.size w w' := by
  by_cases h0 : 2147483647 < n0
  · skip
    have z0 : (2147483647 : Int) < (n0 : Int) := by omega
    clear h
    go_enter Tryd.func10, Tryd.ntmps10
    go_wp2
    go_ret
    exact ⟨rfl, Below.refl _ _⟩
  · have y0 : ¬ (2147483647 : Int) < (n0 : Int) := by omega
    by_cases h1 : 2147483647 < n1
    · skip
      have z1 : (2147483647 : Int) < (n1 : Int) := by omega
      clear h
      go_enter Tryd.func10, Tryd.ntmps10
      go_wp2
      go_ret
      exact ⟨rfl, Below.refl _ _⟩
    · have y1 : ¬ (2147483647 : Int) < (n1 : Int) := by omega
      by_cases h2 : 2147483647 < n2
      · skip
        have z2 : (2147483647 : Int) < (n2 : Int) := by omega
        clear h
        go_enter Tryd.func10, Tryd.ntmps10
        go_wp2
        go_ret
        exact ⟨rfl, Below.refl _ _⟩
      · have y2 : ¬ (2147483647 : Int) < (n2 : Int) := by omega
        have z3 : (2147483647 : Int) < (n3 : Int) := by omega
        clear h
        go_enter Tryd.func10, Tryd.ntmps10
        go_wp2
        go_ret
        exact ⟨rfl, Below.refl _ _⟩

set_option maxHeartbeats 8000000 in
set_option maxRecDepth 1000000 in
theorem two_main (p4 p6 : Addr) (a0 a1 a2 a3 : Option Addr) (z0 z1 z2 z3 : List Int) (c0 c1 c2 c3 : Nat) (h0 : z0.length ≤ 2147483647) (h1 : z1.length ≤ 2147483647) (h2 : z2.length ≤ 2147483647) (h3 : z3.length ≤ 2147483647)
    (w : World) (E : EnvO p4 p6 w) (k0 : z0.length ≤ c0 ∧ c0 ≤ maxLen) (k1 : z1.length ≤ c1 ∧ c1 ≤ maxLen) (k2 : z2.length ≤ c2 ∧ c2 ≤ maxLen) (k3 : z3.length ≤ c3 ∧ c3 ≤ maxLen) (H0 : HoldsB w a0 z0) (H1 : HoldsB w a1 z1) (H2 : HoldsB w a2 z2) (H3 : HoldsB w a3 z3) :
    Calls Tryd.prog 10 #[.slice a0 z0.length c0, .slice a1 z1.length c1, .slice a2 z2.length c2, .slice a3 z3.length c3] w fun e w' => e = .returned (.bool true) ∧ Below w.heap.size w w' := by
  have CL1 := Lib.hid (fun W (g : Below w.heap.size w W) => clear_any a0 a1 z0 z1 c0 c1 W (H0.below g) (H1.below g))
  have CL2 := Lib.hid (fun W (g : Below w.heap.size w W) => clear_any a2 a3 z2 z3 c2 c3 W (H2.below g) (H3.below g))
  have SX1 := Lib.hid (fun W (g : Below w.heap.size w W) => six_any a0 z0 c0 W (H0.below g))
  have SX2 := Lib.hid (fun W (g : Below w.heap.size w W) => six_any a2 z2 c2 W (H2.below g))
  have CMP := Lib.hid (fun l1 l2 W (g : Below w.heap.size w W) => spec_cmp a0 a1 a2 a3 z0 z1 z2 z3 c0 c1 c2 c3 k0.1 k1.1 k2.1 k3.1 l1 l2 W (H0.below g) (H1.below g) (H2.below g) (H3.below g))
  have q0 := lexB_bd (keyU z0 z1) (keyU z2 z3)
  have QE : Hid (lexB (keyU z0 z1) (keyU z2 z3) = cfP (pairsB [(a0, z0, c0), (a2, z2, c2)] [(a1, z1, c1), (a3, z3, c3)]) 0 1) := rfl
  have ORD := Lib.hid (fun (l1 : clearB z0 z1 = true) (l2 : clearB z2 z3 = true) W g g' (G : Below w.heap.size w W) (hg : W.heap[g]? = some (.cells #[.slice a0 z0.length c0, .slice a2 z2.length c2] 22 (0, 0))) (hg' : W.heap[g']? = some (.cells #[.slice a1 z1.length c1, .slice a3 z3.length c3] 22 (0, 0))) =>
    implOrder p4 p6 (some ⟨g, 0, none⟩) (some ⟨g', 0, none⟩) [(a0, z0, c0), (a2, z2, c2)] [(a1, z1, c1), (a3, z3, c3)] 2 2 2 rfl rfl (by decide) W (E.below G)
      (two_rows (r := (a0, z0, c0)) (r' := (a2, z2, c2)) hg ⟨k0.1, k0.2, H0.below G⟩ ⟨k2.1, k2.2, H2.below G⟩) (two_rows (r := (a1, z1, c1)) (r' := (a3, z3, c3)) hg' ⟨k1.1, k1.2, H1.below G⟩ ⟨k3.1, k3.2, H3.below G⟩)
      (fun r hr => by
        simp only [List.mem_cons, List.not_mem_nil, or_false] at hr
        rcases hr with rfl | rfl
        · exact (clearB_parts l1).1
        · exact (clearB_parts l2).1))
  have y0 : ¬ (2147483647 : Int) < (z0.length : Int) := by omega
  have y1 : ¬ (2147483647 : Int) < (z1.length : Int) := by omega
  have y2 : ¬ (2147483647 : Int) < (z2.length : Int) := by omega
  have y3 : ¬ (2147483647 : Int) < (z3.length : Int) := by omega
  generalize hPA : pairsB [(a0, z0, c0), (a2, z2, c2)] [(a1, z1, c1), (a3, z3, c3)] = PA at *
  generalize lexB (keyU z0 z1) (keyU z2 z3) = q at *
  generalize clearB z0 z1 = l1 at *
  generalize clearB z2 z3 = l2 at *
  generalize sixB z0 = s1 at *
  generalize sixB z2 = s2 at *
  clear hPA E k0 k1 k2 k3 H0 H1 H2 H3
  generalize z0.length = n0 at *
  generalize z1.length = n1 at *
  generalize z2.length = n2 at *
  generalize z3.length = n3 at *
  cases l1
  · go_enter Tryd.func10, Tryd.ntmps10
    go_wp2_with (go_at_call 23; ((with_reducible refine (CL1.out _ (Below.refl _ _)).mono ?_); rintro e w1 ⟨rfl, hg⟩; have G1 := Lib.hid hg.below; clear hg))
    go_ret
    exact ⟨rfl, G1.out⟩
  · cases l2
    · go_enter Tryd.func10, Tryd.ntmps10
      go_wp2_with (first | (go_at_call 23; ((with_reducible refine (CL1.out _ (Below.refl _ _)).mono ?_); rintro e w1 ⟨rfl, hg⟩; have G1 := Lib.hid hg.below; clear hg)) | (go_at_call 23; ((with_reducible refine (CL2.out _ G1.out).mono ?_); rintro e w2 ⟨rfl, hg⟩; have G2 := Lib.hid (G1.out.trans (hg.below.mono G1.out.size)); clear hg)))
      go_ret
      exact ⟨rfl, G2.out⟩
    · have CM := Lib.hid (fun W g => CMP.out rfl rfl W g)
      have OR := Lib.hid (fun W g g' G a b => ORD.out rfl rfl W g g' G a b)
      clear CMP ORD
      go_enter Tryd.func10, Tryd.ntmps10
      go_upto_region 6 with (first | (go_at_call 23; ((with_reducible refine (CL1.out _ (Below.refl _ _)).mono ?_); rintro e w1 ⟨rfl, hg⟩; have G1 := Lib.hid hg.below; clear hg)) | (go_at_call 23; ((with_reducible refine (CL2.out _ G1.out).mono ?_); rintro e w2 ⟨rfl, hg⟩; have G2 := Lib.hid (G1.out.trans (hg.below.mono G1.out.size)); clear hg)) | (go_at_call 26; ((refine (CM.out _ G2.out).mono ?_); rintro e w3 ⟨⟨K, rfl⟩, hg⟩; have G3 := Lib.hid (G2.out.trans (hg.mono G2.out.size)); clear hg)))
      go_cut [67] (fun s wx => ∃ t : Bool, s = .bool t ∧ Hid (Below w.heap.size w wx))
      case first =>
        by_cases hK : K = 1
        · subst hK
          by_cases hq : q = 0
          · have e1 : (q == 0) = true := by simp [hq]
            clear hq
            go_wp2_with fail
            go_meet
            exact ⟨true, rfl, G3⟩
          · have e1 : (q == 0) = false := by simp [hq]
            clear hq
            go_wp2_with fail
            go_meet
            exact ⟨false, rfl, G3⟩
        · have e1 : (K == 1) = false := by simp [hK]
          by_cases hT : K = 10
          · have e2 : (K == 10) = true := by simp [hT]
            clear hK hT
            cases s1
            · cases s2
              · go_wp2_with (first | (go_at_call 12; ((with_reducible refine (SX1.out _ G3.out).mono ?_); rintro e w4 ⟨rfl, hg⟩; have G4 := Lib.hid (G3.out.trans (hg.below.mono G3.out.size)); clear hg)) | (go_at_call 12; ((with_reducible refine (SX2.out _ G4.out).mono ?_); rintro e w5 ⟨rfl, hg⟩; have G5 := Lib.hid (G4.out.trans (hg.below.mono G4.out.size)); clear hg)))
                go_meet
                exact ⟨true, rfl, G5⟩
              · go_wp2_with (first | (go_at_call 12; ((with_reducible refine (SX1.out _ G3.out).mono ?_); rintro e w4 ⟨rfl, hg⟩; have G4 := Lib.hid (G3.out.trans (hg.below.mono G3.out.size)); clear hg)) | (go_at_call 12; ((with_reducible refine (SX2.out _ G4.out).mono ?_); rintro e w5 ⟨rfl, hg⟩; have G5 := Lib.hid (G4.out.trans (hg.below.mono G4.out.size)); clear hg)))
                go_meet
                exact ⟨false, rfl, G5⟩
            · go_wp2_with (go_at_call 12; ((with_reducible refine (SX1.out _ G3.out).mono ?_); rintro e w4 ⟨rfl, hg⟩; have G4 := Lib.hid (G3.out.trans (hg.below.mono G3.out.size)); clear hg))
              go_meet
              exact ⟨false, rfl, G4⟩
          · have e2 : (K == 10) = false := by simp [hT]
            clear hK hT
            go_wp2_with fail
            go_meet
            exact ⟨false, rfl, G3⟩
      case rest =>
        obtain ⟨t, rfl, GC⟩ := hcut
        cases t
        · by_cases hq : q = 1
          · have eq1 : (q == 1) = true := by simp [hq]
            have L := laid4 w wc GC.out (.cells #[.int .i64 0, .int .i64 1] 3 (0, 0)) (.cells #[.int .i64 1, .int .i64 0] 3 (0, 0)) (.cells #[.slice a0 n0 c0, .slice a2 n2 c2] 22 (0, 0)) (.cells #[.slice a1 n1 c1, .slice a3 n3 c3] 22 (0, 0)) _ rfl
            have C22 := Lib.hid ((OR.out _ _ _ L.1 L.2.2.1 L.2.2.2.1).mono fun e w6 h => two_end (ys := [1, 0]) (ordd_10 (cfP_pre PA) (by rw [← QE.out]; omega)) L.1 L.1.size L.2.1 h)
            clear L hq
            go_wp2_with (first
              | (go_at_call 22; ((with_reducible refine C22.out.mono ?_); rintro e w6 ⟨av, cv, rfl, r1, r2, r3⟩; have HI := Lib.hid r1; have HB := Lib.hid r2; have HW := Lib.hid r3; clear r1 r2 r3))
              | (go_at_call 24; ((with_reducible refine (same_any _ _ [1, 0] [1, 0] _ HI.out (two_ints (x := 1) (y := 0) HW.out) (by decide) (by decide)).mono ?_); rintro e w7 ⟨rfl, kq, rfl⟩)))
            go_ret
            exact ⟨by simp [sameB], HB.out.trans ⟨rfl, rfl, rfl, Nat.le_refl _, fun _ _ => rfl⟩⟩
          · have eq1 : (q == 1) = false := by simp [hq]
            have L := laid3 w wc GC.out (.cells #[.int .i64 0, .int .i64 1] 3 (0, 0)) (.cells #[.slice a0 n0 c0, .slice a2 n2 c2] 22 (0, 0)) (.cells #[.slice a1 n1 c1, .slice a3 n3 c3] 22 (0, 0)) _ rfl
            have C22 := Lib.hid ((OR.out _ _ _ L.1 L.2.2.1 L.2.2.2.1).mono fun e w6 h => two_end (ys := [0, 1]) (ordd_01 (by rw [← QE.out]; omega)) L.1 L.1.size L.2.1 h)
            clear L hq
            go_wp2_with (first
              | (go_at_call 22; ((with_reducible refine C22.out.mono ?_); rintro e w6 ⟨av, cv, rfl, r1, r2, r3⟩; have HI := Lib.hid r1; have HB := Lib.hid r2; have HW := Lib.hid r3; clear r1 r2 r3))
              | (go_at_call 24; ((with_reducible refine (same_any _ _ [0, 1] [0, 1] _ HI.out (two_ints (x := 0) (y := 1) HW.out) (by decide) (by decide)).mono ?_); rintro e w7 ⟨rfl, kq, rfl⟩)))
            go_ret
            exact ⟨by simp [sameB], HB.out.trans ⟨rfl, rfl, rfl, Nat.le_refl _, fun _ _ => rfl⟩⟩
        · go_wp2_with fail
          go_ret
          exact ⟨rfl, GC.out⟩

/-- laws.FnTwo, whatever the four slices of bytes. -/
theorem two_walk (p4 p6 : Addr) (a0 : Option Addr) (z0 : List Int) (c0 : Nat) (a1 : Option Addr) (z1 : List Int) (c1 : Nat) (a2 : Option Addr) (z2 : List Int) (c2 : Nat) (a3 : Option Addr) (z3 : List Int) (c3 : Nat) (w : World) (E : EnvO p4 p6 w)
    (k0 : z0.length ≤ c0) (m0 : c0 ≤ maxLen) (H0 : HoldsB w a0 z0) (k1 : z1.length ≤ c1) (m1 : c1 ≤ maxLen) (H1 : HoldsB w a1 z1) (k2 : z2.length ≤ c2) (m2 : c2 ≤ maxLen) (H2 : HoldsB w a2 z2) (k3 : z3.length ≤ c3) (m3 : c3 ≤ maxLen) (H3 : HoldsB w a3 z3) :
    Calls Tryd.prog 10 #[.slice a0 z0.length c0, .slice a1 z1.length c1, .slice a2 z2.length c2, .slice a3 z3.length c3] w fun e w' => e = .returned (.bool true) ∧ Below w.heap.size w w' := by
  by_cases b : 2147483647 < z0.length ∨ 2147483647 < z1.length ∨ 2147483647 < z2.length ∨ 2147483647 < z3.length
  · exact two_big a0 a1 a2 a3 _ _ _ _ c0 c1 c2 c3 w b
  · exact two_main p4 p6 a0 a1 a2 a3 z0 z1 z2 z3 c0 c1 c2 c3 (by omega) (by omega) (by omega) (by omega) w E ⟨k0, m0⟩ ⟨k1, m1⟩ ⟨k2, m2⟩ ⟨k3, m3⟩ H0 H1 H2 H3
end Go.Proofs.YtbejikpopealdaaDoor
