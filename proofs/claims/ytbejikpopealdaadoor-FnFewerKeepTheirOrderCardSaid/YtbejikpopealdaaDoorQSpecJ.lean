/-
  The reference's Order, walked: it inserts the indices one by one, by the keys.
-/
import Derived.Test.YtbejikpopealdaaDoorQSpecI
import Derived.Test.YtbejikpopealdaaDoorQUnr
import Derived.Deep.DeepCutAuto
import Derived.Deep.RegionHeld3
import Derived.Laws.CopyOwn
import Derived.Deep.CutBlock
import Derived.StillTailTactics
namespace Go.Proofs.YtbejikpopealdaaDoor
open Go.RowKit Go.Sort

/-! ### the plain law -/
def keyP (PA : List (List Int × List Int)) (x : Nat) : List Int := match PA[x]? with
  | some r => keyU r.1 r.2
  | none => [1, 0, 0, 0, 0, 0]
def cfP (PA : List (List Int × List Int)) (x y : Nat) : Int := lexB (keyP PA x) (keyP PA y)
theorem cfI_P {I : List Dst} {PA : List (List Int × List Int)} (h : I.map (fun r : Dst => (r.2.2.1, r.2.2.2)) = PA) : cfI I = cfP PA := by
  have e : ∀ x, keyI I x = keyP PA x := fun x => by
    unfold keyI keyP
    rw [← h, List.getElem?_map]
    cases I[x]? <;> rfl
  funext x y
  unfold cfI cfP
  rw [e, e]
theorem cfP_pre (PA : List (List Int × List Int)) : Pre (cfP PA) := by
  have l : ∀ x, (keyP PA x).length = 6 := fun x => by
    unfold keyP
    split
    · exact keyU_len _ _
    · rfl
  exact ⟨fun x y => by unfold cfP; rw [lexB_anti (keyP PA x) (keyP PA y)]; omega, fun x y z h k => lexB_trans _ _ _ (by rw [l, l]) (by rw [l, l]) h k⟩

/-- The next index goes in at its place. -/
theorem Ordd.insert {cf : Nat → Nat → Int} (P : Pre cf) {i k : Nat} {out : List Nat} (h : Ordd cf i out) (h1 : ∀ (j x : Nat), k ≤ j → out[j]? = some x → 0 < cf x i) (h2 : k = 0 ∨ ∃ x, out[k - 1]? = some x ∧ cf x i ≤ 0) : Ordd cf (i + 1) (out.take k ++ i :: out.drop k) := by
  refine ⟨?_, ?_⟩
  · rw [List.range_succ]
    refine (List.perm_middle).trans ?_
    rw [List.take_append_drop]
    exact (List.Perm.cons i h.1).trans (List.perm_append_singleton i (List.range i)).symm
  · rw [List.pairwise_append]
    have hp := h.2
    have hsplit : (out.take k ++ out.drop k).Pairwise (Sb cf) := by rw [List.take_append_drop]; exact hp
    obtain ⟨p1, p2, p3⟩ := List.pairwise_append.1 hsplit
    have lt : ∀ x ∈ out, x < i := fun x hx => by have := h.1.mem_iff.1 hx; simpa using this
    have after : ∀ x ∈ out.drop k, Sb cf i x := fun x hx => by
      obtain ⟨j, hj⟩ := List.mem_iff_getElem?.1 hx
      rw [List.getElem?_drop] at hj
      have := h1 (k + j) x (by omega) hj
      exact Or.inl ((P.anti i x).2 this)
    have before : ∀ x ∈ out.take k, Sb cf x i := fun x hx => by
      rcases h2 with h2 | ⟨y, hy, hy2⟩
      · subst h2; simp at hx
      · have ly : y < i := lt y (List.mem_of_getElem? hy)
        have sy : Sb cf y i := by
          rcases Int.lt_or_eq_of_le hy2 with h | h
          · exact Or.inl h
          · exact Or.inr ⟨h, ly⟩
        obtain ⟨j, hj⟩ := List.mem_iff_getElem?.1 hx
        rw [List.getElem?_take] at hj
        have hjk : j < k := by
          rcases Nat.lt_or_ge j k with h | h
          · exact h
          · rw [if_neg (by omega)] at hj; cases hj
        rw [if_pos hjk] at hj
        by_cases e : j = k - 1
        · subst e
          rw [hj] at hy
          cases hy; exact sy
        · have l1 : j < out.length := by
            rcases Nat.lt_or_ge j out.length with h | h
            · exact h
            · rw [List.getElem?_eq_none h] at hj; cases hj
          have l2 : k - 1 < out.length := by
            rcases Nat.lt_or_ge (k - 1) out.length with h | h
            · exact h
            · rw [List.getElem?_eq_none h] at hy; cases hy
          have e1 : out[j] = x := by rw [List.getElem?_eq_getElem l1] at hj; exact Option.some.inj hj
          have e2 : out[k - 1] = y := by rw [List.getElem?_eq_getElem l2] at hy; exact Option.some.inj hy
          have := List.pairwise_iff_getElem.1 hp j (k - 1) l1 l2 (by omega)
          rw [e1, e2] at this
          exact this.trans P sy
    refine ⟨p1, List.pairwise_cons.2 ⟨after, p2⟩, fun x hx y hy => ?_⟩
    rcases List.mem_cons.1 hy with rfl | hy
    · exact before x hx
    · exact p3 x hx y hy

/-! ### the row -/
def SpO (PA : List (List Int × List Int)) (w : World) (i : Nat) (v : Value) (out : List Nat) (W : World) : Prop :=
  Below w.heap.size w W ∧ W.ownsRow w.heap.size 3 1 v i (intsV out) ∧ Ordd (cfP PA) i out
theorem SpO.start (PA : List (List Int × List Int)) (w : World) : SpO PA w 0 (.slice none 0 0) [] w :=
  ⟨Below.refl _ _, World.ownsRow_nil _ _ _ _, List.Perm.refl _, List.Pairwise.nil⟩
theorem intsV_len (xs : List Nat) : (intsV xs).length = xs.length := by simp [intsV]
/-- Behind the copy and the store: the index stands at its place. -/
theorem row_inserted {W : World} {B g cap i k : Nat} {cur : List Value} {out : List Nat} (hB : B ≤ g) (hl : out.length = i) (hk : k ≤ i) (hcap : i + 1 ≤ cap) (hcm : cap ≤ maxLen) (hcs : cur.length = cap) (ht : cur.take (i + 1) = intsV out ++ [.int .i64 0])
    (hg : W.heap[g]? = some (.cells (splice cur (k + 1) ((intsV out).drop k)).toArray 3 (0, 0))) :
    (W.setCell ⟨g, k, none⟩ (.int .i64 (i : Int))).ownsRow B 3 1 (.slice (some ⟨g, 0, none⟩) (i + 1) cap) (i + 1) (intsV (out.take k ++ i :: out.drop k)) := by
  have hlen : (intsV (out.take k ++ i :: out.drop k)).length = (i + 1) * 1 := by
    rw [intsV_len]; simp; omega
  have hd : ((intsV out).drop k).length = i - k := by rw [List.length_drop, intsV_len, hl]
  have hs : (splice cur (k + 1) ((intsV out).drop k)).length = cur.length := length_splice _ _ _ (by rw [hd]; omega)
  refine ⟨hlen, .inr ⟨g, cap, (splice cur (k + 1) ((intsV out).drop k)).toArray.setIfInBounds k (.int .i64 (i : Int)), rfl, hB, heap_setCell_same W g k _ 3 _ hg, hcap, hcm, by simp [hs, hcs], ?_⟩⟩
  have tk : ∀ t, t < i → cur[t]? = (intsV out)[t]? := fun t h => by
    have := congrArg (·[t]?) ht
    rw [List.getElem?_take, if_pos (by omega), List.getElem?_append_left (by rw [intsV_len]; omega)] at this
    exact this
  apply List.ext_getElem?
  intro t
  rw [List.getElem?_take]
  by_cases c : t < (i + 1) * 1
  · have e2 : intsV (out.take k ++ i :: out.drop k) = intsV (out.take k) ++ .int .i64 (i : Int) :: (intsV out).drop k := by
      unfold intsV
      rw [List.map_append, List.map_cons, List.map_drop]
    have lk : (intsV (out.take k)).length = k := by rw [intsV_len]; simp; omega
    rw [if_pos c, Array.toList_setIfInBounds, e2]
    dsimp only
    by_cases c1 : t = k
    · subst c1
      rw [List.getElem?_set_self (by rw [hs]; omega), List.getElem?_append_right (by rw [lk]; exact Nat.le_refl _), lk, Nat.sub_self]
      rfl
    · rw [List.getElem?_set_ne (Ne.symm c1)]
      unfold splice
      by_cases c2 : t < k
      · rw [List.getElem?_append_left (by simp; omega), List.getElem?_take, if_pos (by omega), tk t (by omega), List.getElem?_append_left (by rw [lk]; exact c2)]
        unfold intsV
        rw [List.getElem?_map, List.getElem?_map, List.getElem?_take, if_pos c2]
      · have l1 : (cur.take (k + 1)).length = k + 1 := by simp; omega
        obtain ⟨s, rfl⟩ : ∃ s, t = k + 1 + s := ⟨t - (k + 1), by omega⟩
        rw [List.getElem?_append_right (by rw [l1]; omega), l1, show k + 1 + s - (k + 1) = s by omega, List.getElem?_append_left (by rw [hd]; omega), List.getElem?_append_right (by rw [lk]; omega), lk, show k + 1 + s - k = s + 1 by omega, List.getElem?_cons_succ]
  · rw [if_neg c, List.getElem?_eq_none (by rw [hlen]; omega)]

/-! ### the walk -/
/-- How the reference's order ends. -/
def SpEnd (PA : List (List Int × List Int)) (n : Nat) (w : World) (e : Ending) (w' : World) : Prop :=
  ∃ v xs, e = .returned v ∧ Ordd (cfP PA) n xs ∧ HoldsI w' v xs ∧ Below w.heap.size w w'
theorem intsV_at {xs : List Nat} {j x : Nat} (h : xs[j]? = some x) : (intsV xs)[j]? = some (.int .i64 (x : Int)) := by
  unfold intsV
  rw [List.getElem?_map, h]
  rfl
theorem ownI_holds {W : World} {B n : Nat} {v : Value} {xs : List Nat} (h : W.ownsRow B 3 1 v n (intsV xs)) (hl : xs.length = n) : HoldsI W v xs := by
  subst hl
  rcases h.2 with ⟨rfl, h0⟩ | ⟨g, cap, cur, rfl, h4, h5, h6, _⟩
  · have : xs = [] := List.eq_nil_of_length_eq_zero h0
    subst this
    exact ⟨none, 0, rfl, Nat.le_refl _, Or.inl rfl⟩
  · refine ⟨_, cap, rfl, h6, Or.inr ⟨g, 0, rfl, (own_ge h rfl).2, fun i x hx => ?_⟩⟩
    have hi : i < xs.length := by
      rcases Nat.lt_or_ge i xs.length with h' | h'
      · exact h'
      · rw [List.getElem?_eq_none h'] at hx; cases hx
    rw [Nat.zero_add, h.cellAt i (by omega), intsV_at hx]

theorem keyP_at {PA : List (List Int × List Int)} {rA rS : List (Option Addr × List Int × Nat)} (h : PA = pairsB rA rS) {x : Nat} {r r' : Option Addr × List Int × Nat} (hr : rA[x]? = some r) (hr' : rS[x]? = some r') : keyP PA x = keyU r.2.1 r'.2.1 := by
  have : PA[x]? = some (r.2.1, r'.2.1) := by
    rw [h]
    unfold pairsB
    rw [List.getElem?_zip_eq_some]
    simp [hr, hr']
  unfold keyP
  rw [this]
theorem sp_step {wr W W' : World} {bA oA bS oS x i : Nat} {ax ax' az ay : Option Addr} {zxl cx yxl cx' zil cz yil cy : Nat} (hA : bA < wr.heap.size) (hS : bS < wr.heap.size)
    (h : Below wr.heap.size wr W ∧ W.cell? ⟨bA, oA + x, none⟩ = some (.slice ax zxl cx) ∧ W.cell? ⟨bS, oS + x, none⟩ = some (.slice ax' yxl cx') ∧ W.cell? ⟨bA, oA + i, none⟩ = some (.slice az zil cz) ∧ W.cell? ⟨bS, oS + i, none⟩ = some (.slice ay yil cy)) (k : Below W.heap.size W W') : Below wr.heap.size wr W' ∧ W'.cell? ⟨bA, oA + x, none⟩ = some (.slice ax zxl cx) ∧ W'.cell? ⟨bS, oS + x, none⟩ = some (.slice ax' yxl cx') ∧ W'.cell? ⟨bA, oA + i, none⟩ = some (.slice az zil cz) ∧ W'.cell? ⟨bS, oS + i, none⟩ = some (.slice ay yil cy) := by
  obtain ⟨h0, h1, h2, h3, h4⟩ := h
  have lA : bA < W.heap.size := Nat.lt_of_lt_of_le hA h0.size
  have lS : bS < W.heap.size := Nat.lt_of_lt_of_le hS h0.size
  exact ⟨h0.trans (k.mono h0.size), (k.cell (p := ⟨bA, _, none⟩) lA).trans h1, (k.cell (p := ⟨bS, _, none⟩) lS).trans h2, (k.cell (p := ⟨bA, _, none⟩) lA).trans h3, (k.cell (p := ⟨bS, _, none⟩) lS).trans h4⟩

set_option maxHeartbeats 8000000 in
set_option maxRecDepth 1000000 in
theorem specOrder_some (bA oA bS oS cA cS n : Nat) (rA rS : List (Option Addr × List Int × Nat)) (hA : rA.length = n) (hS : rS.length = n) (hn1 : n ≤ 1000) (w : World)
    (KA : ∀ r ∈ rA, r.2.1.length ≤ r.2.2 ∧ HoldsB w r.1 r.2.1) (KS : ∀ r ∈ rS, r.2.1.length ≤ r.2.2 ∧ HoldsB w r.1 r.2.1) (lA : bA < w.heap.size) (lS : bS < w.heap.size)
    (KC : ∀ (k : Nat) (r r' : Option Addr × List Int × Nat), rA[k]? = some r → rS[k]? = some r' → clearB r.2.1 r'.2.1 = true)
    (CA : ∀ i r, rA[i]? = some r → w.cell? ⟨bA, oA + i, none⟩ = some (.slice r.1 r.2.1.length r.2.2)) (CS : ∀ i r, rS[i]? = some r → w.cell? ⟨bS, oS + i, none⟩ = some (.slice r.1 r.2.1.length r.2.2)) :
    Calls Tryd.prog 25 #[.slice (some ⟨bA, oA, none⟩) n cA, .slice (some ⟨bS, oS, none⟩) n cS] w (SpEnd (pairsB rA rS) n w) := by
  obtain ⟨i3, hi3, hz3, hs3, hb3⟩ := info_parts Tryd.info3
  have I3 := Lib.hid (And.intro hi3 (And.intro hz3 (And.intro hs3 hb3)))
  obtain ⟨PA, hPA⟩ : ∃ PA, PA = pairsB rA rS := ⟨_, rfl⟩
  have HPA := Lib.hid hPA
  have HLA := Lib.hid hA
  have HLS := Lib.hid hS
  have HKA := Lib.hid KA
  have HKS := Lib.hid KS
  have HKC := Lib.hid KC
  have HCA := Lib.hid CA
  have HCS := Lib.hid CS
  rw [← hPA]
  clear hi3 hz3 hs3 hb3 hPA hA hS KA KS KC CA CS
  have HA0 : Hid (SpO PA w 0 (.slice none 0 0) [] w) := SpO.start PA w
  go_enter Tryd.func25, Tryd.ntmps25
  go_wp2
  obtain ⟨wo, hwo⟩ : ∃ wo : World, wo = w := ⟨_, rfl⟩
  go_loopg [5, 13] n (fun kx s5 s13 wr => ∃ (i : Nat) (out : List Nat), s13 = .int .i64 i ∧ i ≤ n ∧ n - i ≤ kx ∧ Hid (SpO PA w i s5 out wr))
  case atStart => exact ⟨0, [], by go_num, Nat.zero_le _, by omega, HA0⟩
  case round =>
    clear HA0
    obtain ⟨i, out, rfl, hin, hkx, HR⟩ := hrel
    by_cases hi : i < n
    · have hiz : (i : Int) < (n : Int) := by omega
      obtain ⟨⟨az, zi, cz⟩, hri⟩ : ∃ r, rA[i]? = some r := ⟨rA[i]'(by have := HLA.out; omega), List.getElem?_eq_getElem _⟩
      obtain ⟨⟨ay, yi, cy⟩, hri'⟩ : ∃ r, rS[i]? = some r := ⟨rS[i]'(by have := HLS.out; omega), List.getElem?_eq_getElem _⟩
      have BEL := Lib.hid HR.out.1
      have OWN := Lib.hid HR.out.2.1
      have ORDD := Lib.hid HR.out.2.2
      have hlo : out.length = i := by have := HR.out.2.2.1.length_eq; simpa using this
      have HLO := Lib.hid hlo
      have hszw : w.heap.size ≤ wr.heap.size := HR.out.1.size
      have u5s : ∃ a5 c5, u5 = .slice a5 i c5 := by
        rcases HR.out.2.1.2 with ⟨e, h0⟩ | ⟨g, cap, cur, e, _⟩
        · exact ⟨none, 0, by rw [e, h0]⟩
        · exact ⟨_, cap, e⟩
      obtain ⟨a5, c5, hu5⟩ := u5s
      subst hu5
      obtain ⟨w0, rfl⟩ : ∃ w0 : World, w0 = wr := ⟨_, rfl⟩
      clear HR hlo
      go_upto_block 2 with fail
      go_cut [7] (fun s7 wx => ∃ k : Nat, s7 = .int .i64 k ∧ k ≤ i ∧ Hid (Below w0.heap.size w0 wx ∧ (∀ (j x : Nat), k ≤ j → out[j]? = some x → 0 < cfP PA x i) ∧ (k = 0 ∨ ∃ x, out[k - 1]? = some x ∧ cfP PA x i ≤ 0)))
      case first =>
        have I0 : Hid (Below w0.heap.size w0 w0 ∧ ∀ (j x : Nat), i ≤ j → out[j]? = some x → 0 < cfP PA x i) := by
          refine ⟨Below.refl _ _, fun j x hj hx => ?_⟩
          rw [List.getElem?_eq_none (by have := HLO.out; omega)] at hx
          cases hx
        clear hkx
        go_wp2_with fail
        go_loopg [7] i (fun ky s7 wr => ∃ k : Nat, s7 = .int .i64 k ∧ k ≤ i ∧ k ≤ ky ∧ Hid (Below w0.heap.size w0 wr ∧ ∀ (j x : Nat), k ≤ j → out[j]? = some x → 0 < cfP PA x i))
        case atStart => exact ⟨i, rfl, Nat.le_refl _, Nat.le_refl _, I0⟩
        case round =>
          clear I0
          obtain ⟨k, rfl, hki, hky, HI⟩ := hrel
          by_cases hk : 0 < k
          · obtain ⟨kp, rfl⟩ : ∃ kp, k = kp + 1 := ⟨k - 1, by omega⟩
            obtain ⟨x, hx⟩ : ∃ x, out[kp]? = some x := ⟨out[kp]'(by have := HLO.out; omega), List.getElem?_eq_getElem _⟩
            have hxi : x < i := by
              have := ORDD.out.1.mem_iff.1 (List.mem_of_getElem? hx)
              simpa using this
            obtain ⟨g, cap, e, hg1, hg2⟩ := OWN.out.form (by omega)
            cases e
            obtain ⟨⟨ax, zx, cx⟩, hrx⟩ : ∃ r, rA[x]? = some r := ⟨rA[x]'(by have := HLA.out; omega), List.getElem?_eq_getElem _⟩
            obtain ⟨⟨ax', yx, cx'⟩, hrx'⟩ : ∃ r, rS[x]? = some r := ⟨rS[x]'(by have := HLS.out; omega), List.getElem?_eq_getElem _⟩
            have BW := BEL.out.trans (HI.out.1.mono hszw)
            have c0 : wr.cell? ⟨g, kp, none⟩ = some (.int .i64 (x : Int)) := by
              rw [(own_none OWN.out (below_none HI.out.1)).cellAt kp (by omega), intsV_at hx]
            have d0 := (BW.cell (p := ⟨bA, oA + x, none⟩) lA).trans (HCA.out x _ hrx)
            have d1 := (BW.cell (p := ⟨bS, oS + x, none⟩) lS).trans (HCS.out x _ hrx')
            have d2 := (BW.cell (p := ⟨bA, oA + i, none⟩) lA).trans (HCA.out i _ hri)
            have d3 := (BW.cell (p := ⟨bS, oS + i, none⟩) lS).trans (HCS.out i _ hri')
            simp only at d0 d1 d2 d3
            have kx := HKA.out _ (List.mem_of_getElem? hrx)
            have kx' := HKS.out _ (List.mem_of_getElem? hrx')
            have ki := HKA.out _ (List.mem_of_getElem? hri)
            have ki' := HKS.out _ (List.mem_of_getElem? hri')
            simp only at kx kx' ki ki'
            have CMP := Lib.hid (fun W (G : Below wr.heap.size wr W) => spec_cmp ax ax' az ay zx yx zi yi cx cx' cz cy kx.1 kx'.1 ki.1 ki'.1 (HKC.out x _ _ hrx hrx') (HKC.out i _ _ hri hri') W (kx.2.below (BW.trans (G.mono BW.size))) (kx'.2.below (BW.trans (G.mono BW.size))) (ki.2.below (BW.trans (G.mono BW.size))) (ki'.2.below (BW.trans (G.mono BW.size))))
            have QE : Hid (lexB (keyU zx yx) (keyU zi yi) = cfP PA x i) := by
              show _ = _
              unfold cfP
              rw [keyP_at HPA.out hrx hrx', keyP_at HPA.out hri hri']
            have q0 := lexB_bd (keyU zx yx) (keyU zi yi)
            have HX := Lib.hid hx
            have hlA : bA < wr.heap.size := World.block_lt_of_cell? _ _ d0
            have hlS : bS < wr.heap.size := World.block_lt_of_cell? _ _ d1
            clear hx hrx hrx' kx kx' ki ki' BW hri hri'
            generalize lexB (keyU zx yx) (keyU zi yi) = q at *
            generalize zx.length = zxl at *
            generalize yx.length = yxl at *
            generalize zi.length = zil at *
            generalize yi.length = yil at *
            have kpz : (0 : Int) ≤ (kp : Int) := by omega
            have kpz1 : (0 : Int) < (kp : Int) + 1 := by omega
            have kpw : IntKind.i64.wrap (kp : Int) = (kp : Int) := by rw [IntKind.wrap_i64]; omega
            have kpi : (kp : Int) < (i : Int) := by omega
            have xz0 : (0 : Int) ≤ (x : Int) := by omega
            have xzn : (x : Int) < (n : Int) := by omega
            have izn : (0 : Int) ≤ (i : Int) := by omega
            have r0 : Below wr.heap.size wr wr := Below.refl _ _
            go_upto_region 8 with fail
            go_region_held3 (fun w' => Below wr.heap.size wr w' ∧ w'.cell? ⟨bA, oA + x, none⟩ = some (.slice ax zxl cx) ∧ w'.cell? ⟨bS, oS + x, none⟩ = some (.slice ax' yxl cx') ∧ w'.cell? ⟨bA, oA + i, none⟩ = some (.slice az zil cz) ∧ w'.cell? ⟨bS, oS + i, none⟩ = some (.slice ay yil cy)) (first | (with_reducible exact ⟨by assumption, by assumption, by assumption, by assumption, by assumption⟩) | (exact sp_step hlA hlS ⟨by assumption, by assumption, by assumption, by assumption, by assumption⟩ (Below.refl _ _).drew))
              (first | (go_at_call 26; (refine (CMP.out _ (by first | assumption | exact Below.drew (by assumption))).mono ?_); rintro e w' ⟨⟨K, rfl⟩, hg'⟩; have hst := (by first | exact sp_step (wr := wr) (bA := bA) (oA := oA) (bS := bS) (oS := oS) (x := x) (i := i) hlA hlS ⟨by assumption, by assumption, by assumption, by assumption, by assumption⟩ hg' | exact sp_step (wr := wr) (bA := bA) (oA := oA) (bS := bS) (oS := oS) (x := x) (i := i) hlA hlS ⟨by assumption, by assumption, by assumption, by assumption, by assumption⟩ ((Below.refl _ _).drew.trans (hg'.mono (by simp)))); obtain ⟨k0, k1, k2, k3, k4⟩ := hst))
            rename_i hS
            have hw := Lib.hid (HI.out.1.trans (hS.1.mono HI.out.1.size))
            clear hS
            by_cases hq : q = 1
            · have hqz : (q != 1) = false := by simp [hq]
              have NXT : Hid (∀ (j y : Nat), kp ≤ j → out[j]? = some y → 0 < cfP PA y i) := by
                intro j y hj hy
                by_cases e : j = kp
                · subst e
                  rw [HX.out] at hy
                  cases hy
                  rw [← QE.out]; omega
                · exact HI.out.2 j y (by omega) hy
              clear hq
              go_wp2_with fail
              go_roundg kp
              case measure => omega
              case rel => exact ⟨kp, by first | rfl | go_num, by omega, Nat.le_refl _, hw.out, NXT.out⟩
            · have hqz : (q != 1) = true := by rw [bne_iff_ne]; exact hq
              have LST : Hid (cfP PA x i ≤ 0) := by
                show _ ≤ _
                rw [← QE.out]; omega
              clear hq
              go_wp2_with fail
              go_meet
              exact ⟨kp + 1, by first | rfl | go_num, hki, hw.out, HI.out.2, Or.inr ⟨x, HX.out, LST.out⟩⟩
          · obtain rfl : k = 0 := by omega
            go_wp2_with fail
            go_meet
            exact ⟨0, rfl, Nat.zero_le _, HI.out.1, HI.out.2, Or.inl rfl⟩
      case rest =>
        obtain ⟨k, rfl, hki, HK⟩ := hcut
        have OWC := Lib.hid (own_none OWN.out (below_none HK.out.1))
        have BWC := Lib.hid (BEL.out.trans (HK.out.1.mono hszw))
        have hszc : w.heap.size ≤ wc.heap.size := BWC.out.size
        go_upto_region 12 with (at_builtin; refine wpList_append_lies _ rfl _ _ 34 rfl w.heap.size 3 i3 (.int .i64 0) 1 8 Tryd.underlying34 I3.out.1 I3.out.2.1 I3.out.2.2.1 I3.out.2.2.2 rfl (by decide) (.slice a5 i c5) i _ rfl (OWC.out.alloc _) ⟨wc.heap.size, 0, none⟩ 1 1 [.int .i64 0] rfl rfl ?_ ?_ Nat.zero_lt_one ?_ ?_ ?_ _ rfl ?_; (first | exact World.news_of_block (heap_alloc_new wc _) | skip); (first | (intro u hu; simp only [List.mem_cons, List.not_mem_nil, or_false] at hu; rcases hu with rfl; rfl) | skip); (all_goals try (first | (unfold maxLen; omega) | omega | (simp; omega))); (intro g cap w4 hown hgrow hat hlt); have HO4 := Lib.hid hown; have HG4 := Lib.hid hgrow; clear hown hgrow hat hlt)
        obtain ⟨cur, hgB, hcur, hi1, hcm, hcs, htk⟩ : ∃ cur : Array Value, w.heap.size ≤ g ∧ w4.heap[g]? = some (.cells cur 3 (0, 0)) ∧ i + 1 ≤ cap ∧ cap ≤ maxLen ∧ cur.size = cap ∧ cur.toList.take (i + 1) = intsV out ++ [.int .i64 0] := by
          rcases HO4.out.2 with ⟨e, _⟩ | ⟨g', cap', cur, e, q1, q2, q3, q4, q5, q6⟩
          · cases e
          · cases e
            rw [Nat.mul_one] at q5 q6
            exact ⟨cur, q1, q2, q3, q4, q5, q6⟩
        have B4 : Below w.heap.size w w4 := below_grown (BWC.out.alloc (by omega) _) HG4.out (Nat.le_refl _) (fun k hk => (own_ge OWC.out hk).1)
        have BB := Lib.hid B4
        have HCUR := Lib.hid hcur
        have HCS := Lib.hid hcs
        have HTK := Lib.hid htk
        have hcm2 : cap ≤ 9223372036854775807 := by unfold maxLen at hcm; omega
        have HCM := Lib.hid hcm
        obtain ⟨cs, hcse⟩ : ∃ cs, cs = (intsV out).drop k := ⟨_, rfl⟩
        have HCSE := Lib.hid hcse
        clear B4 hcur hcs htk hcm hcse OWC BWC HO4 HG4
        have kz0 : (0 : Int) ≤ (k : Int) := by omega
        have kz1 : (k : Int) ≤ (i : Int) := by omega
        have kz2 : (0 : Int) ≤ (k : Int) + 1 := by omega
        have kz3 : (k : Int) + 1 ≤ (i : Int) + 1 := by omega
        have kz4 : (k : Int) ≤ (i : Int) + 1 := by omega
        have kz5 : k ≤ i + 1 := by omega
        have kt : ((k : Int) + 1).toNat = k + 1 := by omega
        have kw : IntKind.i64.wrap ((k : Int) + 1) = (k : Int) + 1 := by rw [IntKind.wrap_i64]; omega
        have kc0 : ¬ cap = k := by omega
        have kc1 : ¬ k = cap := by omega
        have HCL : Hid (cs.length = i - k) := by show _ = _; rw [HCSE.out, List.length_drop, intsV_len, HLO.out]
        have HCU2 : Hid (w4.drew.heap[g]? = some (.cells cur.toList.toArray 3 (0, 0))) := by show _ = _; rw [Array.toArray_toList]; exact HCUR.out
        have HFIT : Hid (k + 1 + cs.length ≤ cur.toList.length) := by show _ ≤ _; rw [HCL.out, Array.length_toList, HCS.out]; omega
        have HONE : Hid (∀ v ∈ cs, v.oneCell' = true) := by
          intro v hv
          rw [HCSE.out] at hv
          have := List.mem_of_mem_drop hv
          unfold intsV at this
          obtain ⟨q, _, rfl⟩ := List.mem_map.1 this
          rfl
        have HSRC : Hid (∀ j v, cs[j]? = some v → w4.drew.cell? ((⟨g, k, none⟩ : Addr).add j) = some v) := by
          intro j v hv
          rw [HCSE.out, List.getElem?_drop] at hv
          rw [Addr.add_lit]
          have hj : k + j < i := by
            have := HLO.out
            rcases Nat.lt_or_ge (k + j) (intsV out).length with h | h
            · rw [intsV_len] at h; omega
            · rw [List.getElem?_eq_none h] at hv; cases hv
          have h2 := congrArg (·[k + j]?) HTK.out
          rw [List.getElem?_take, if_pos (by omega), List.getElem?_append_left (by rw [intsV_len, HLO.out]; exact hj), hv] at h2
          rw [cell_of_row w4.drew g (k + j) _ 3 (0, 0) HCU2.out]
          simpa using h2
        by_cases hcap : cap = k + 1
        · have hik : Hid (i = k) := by show _ = _; omega
          have hcapH := Lib.hid hcap
          go_still_tail 7, (by kernel_rfl)
          refine wpList_copy_splice rfl (.tmp 55) (.tmp 58) 34 34 rfl 3 Tryd.underlying34 (by kernel_rfl) _ _ _ _ _ _ rfl rfl g (k + 1) cur.toList 3 HCU2.out cs ?_ (fun h => absurd h (by rw [HCL.out, hik.out]; omega)) HFIT.out HONE.out w.heap.size w (BB.out.drew) hgB ?_
          · rw [HCL.out]
            simp only [Nat.min_def]
            split <;> omega
          · intro w5 HG5 hb5
            have hb5h := Lib.hid hb5
            have t0 : ∃ v, w5.cell? ⟨g, k, none⟩ = some v := by
              rw [cell_of_row w5 g k _ 3 (0, 0) HG5.out]
              exact ⟨_, Array.getElem?_eq_getElem (by rw [List.size_toArray, length_splice _ _ _ HFIT.out, Array.length_toList, HCS.out]; omega)⟩
            have f0 : w5.frozen? ⟨g, k, none⟩ = false := frozen_of_row w5 g k _ 3 HG5.out
            obtain ⟨v0, t0⟩ := t0
            have NXT : Hid (SpO PA w (i + 1) (.slice (some ⟨g, 0, none⟩) (i + 1) cap) (out.take k ++ i :: out.drop k) (w5.setCell ⟨g, k, none⟩ (.int .i64 (i : Int)))) :=
              ⟨hb5h.out.setCell hgB _, row_inserted hgB HLO.out hki hi1 HCM.out (by rw [Array.length_toList]; exact HCS.out) HTK.out (by rw [← HCSE.out]; exact HG5.out), ORDD.out.insert (cfP_pre PA) HK.out.2.1 HK.out.2.2⟩
            have hg5 : g < w5.heap.size := World.block_lt_of_cell? _ _ t0
            clear hb5 HG5
            go_wp2
            go_roundg (n - (i + 1))
            case measure => omega
            case rel => exact ⟨i + 1, _, by go_num, hi, Nat.le_refl _, (by have q := NXT; rw [hcapH.out] at q; exact q)⟩
        · skip
          go_still_tail 7, (by kernel_rfl)
          refine wpList_copy_splice rfl (.tmp 55) (.tmp 58) 34 34 rfl 3 Tryd.underlying34 (by kernel_rfl) _ _ _ _ _ _ rfl rfl g (k + 1) cur.toList 3 HCU2.out cs ?_ (fun _ => ⟨rfl, _, rfl, HSRC.out⟩) HFIT.out HONE.out w.heap.size w (BB.out.drew) hgB ?_
          · rw [HCL.out]
            simp only [Nat.min_def]
            split <;> omega
          · intro w5 HG5 hb5
            have hb5h := Lib.hid hb5
            have t0 : ∃ v, w5.cell? ⟨g, k, none⟩ = some v := by
              rw [cell_of_row w5 g k _ 3 (0, 0) HG5.out]
              exact ⟨_, Array.getElem?_eq_getElem (by rw [List.size_toArray, length_splice _ _ _ HFIT.out, Array.length_toList, HCS.out]; omega)⟩
            have f0 : w5.frozen? ⟨g, k, none⟩ = false := frozen_of_row w5 g k _ 3 HG5.out
            obtain ⟨v0, t0⟩ := t0
            have NXT : Hid (SpO PA w (i + 1) (.slice (some ⟨g, 0, none⟩) (i + 1) cap) (out.take k ++ i :: out.drop k) (w5.setCell ⟨g, k, none⟩ (.int .i64 (i : Int)))) :=
              ⟨hb5h.out.setCell hgB _, row_inserted hgB HLO.out hki hi1 HCM.out (by rw [Array.length_toList]; exact HCS.out) HTK.out (by rw [← HCSE.out]; exact HG5.out), ORDD.out.insert (cfP_pre PA) HK.out.2.1 HK.out.2.2⟩
            have hg5 : g < w5.heap.size := World.block_lt_of_cell? _ _ t0
            clear hb5 HG5
            go_wp2
            go_roundg (n - (i + 1))
            case measure => omega
            case rel => exact ⟨i + 1, _, by go_num, hi, Nat.le_refl _, NXT⟩
    · have hiz : ¬ (i : Int) < (n : Int) := by omega
      obtain rfl : n = i := by omega
      go_wp2
      go_ret
      exact ⟨_, out, rfl, HR.out.2.2, ownI_holds HR.out.2.1 (by have := HR.out.2.2.1.length_eq; simpa using this), HR.out.1⟩

set_option maxHeartbeats 2000000 in
set_option maxRecDepth 100000 in
theorem specOrder_nil (a a' : Option Addr) (c c' : Nat) (w : World) : Calls Tryd.prog 25 #[.slice a 0 c, .slice a' 0 c'] w (SpEnd [] 0 w) := by
  go_enter Tryd.func25, Tryd.ntmps25
  go_wp2
  go_loopg [5, 13] 0 (fun kx s5 s13 wr => s5 = .slice none 0 0 ∧ s13 = .int .i64 0 ∧ wr = w)
  case atStart => exact ⟨rfl, rfl, rfl⟩
  case round =>
    obtain ⟨rfl, rfl, rfl⟩ := hrel
    go_wp2
    go_ret
    exact ⟨_, [], rfl, ⟨List.Perm.refl _, List.Pairwise.nil⟩, ⟨none, 0, rfl, Nat.le_refl _, Or.inl rfl⟩, Below.refl _ _⟩
theorem specOrder_any (a a' : Option Addr) (rA rS : List (Option Addr × List Int × Nat)) (c c' n : Nat) (hA : rA.length = n) (hS : rS.length = n) (hn1 : n ≤ 1000) (w : World) (HA : HoldsBB w a rA) (HS : HoldsBB w a' rS)
    (KC : ∀ (k : Nat) (r r' : Option Addr × List Int × Nat), rA[k]? = some r → rS[k]? = some r' → clearB r.2.1 r'.2.1 = true) :
    Calls Tryd.prog 25 #[.slice a n c, .slice a' n c'] w (SpEnd (pairsB rA rS) n w) := by
  by_cases h0 : n = 0
  · subst h0
    have : rA = [] := List.eq_nil_of_length_eq_zero hA
    subst this
    exact specOrder_nil a a' c c' w
  · rcases HA.2 with hh | ⟨b, off, rfl, hb, hc⟩
    · rw [hh] at hA; simp at hA; omega
    rcases HS.2 with hh | ⟨b', off', rfl, hb', hc'⟩
    · rw [hh] at hS; simp at hS; omega
    exact specOrder_some b off b' off' c c' n rA rS hA hS hn1 w (fun r hr => ⟨(HA.1 r hr).1, (HA.1 r hr).2.2⟩) (fun r hr => ⟨(HS.1 r hr).1, (HS.1 r hr).2.2⟩) hb hb' KC hc hc'
end Go.Proofs.YtbejikpopealdaaDoor
