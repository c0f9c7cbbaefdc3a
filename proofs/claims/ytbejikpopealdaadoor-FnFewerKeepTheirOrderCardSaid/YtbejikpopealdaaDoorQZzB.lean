/-
  ZZOrder of the package, walked: where there are destinations.
-/
import Derived.Test.YtbejikpopealdaaDoorQZzA
namespace Go.Proofs.YtbejikpopealdaaDoor
open Go.RowKit

theorem Tryd.info74 : (Tryd.prog.info? 74).map (fun i => (i.zero, i.size, i.bytes)) = some (some (.agg #[.slice none 0 0, .string ⟨#[]⟩]), 2, 40) := by kernel_rfl
theorem Tryd.info55 : (Tryd.prog.info? 55).map (fun i => (i.zero, i.size, i.bytes)) = some (some (.agg #[.int .u64 0, .int .u64 0, .pointer none]), 3, 24) := by kernel_rfl
theorem Tryd.info3 : (Tryd.prog.info? 3).map (fun i => (i.zero, i.size, i.bytes)) = some (some (.int .i64 0), 1, 8) := by kernel_rfl

/-- How the order's call ends: with the one sorted list of the indices. -/
def OrdEnd (PA : List (List Int × List Int)) (n : Nat) (w : World) (e : Ending) (w' : World) : Prop :=
  ∃ v xs I, e = .returned v ∧ I.map (fun r : Dst => (r.2.2.1, r.2.2.2)) = PA ∧ Ordd (cfI I) n xs ∧ HoldsI w' v xs ∧ (∀ k, v.ownBlock = some k → w.heap.size ≤ k) ∧ Below w.heap.size w w'
theorem below_none {w w' : World} (h : Below w.heap.size w w') : w.grownBy w' none := ⟨h.os, h.tape, h.output, h.size, fun k hk _ => h.block k hk⟩
theorem own_none {w w' : World} {b : Nat} {e : TypeId} {size : Nat} {v : Value} {n : Nat} {xs : List Value} (h : w.ownsRow b e size v n xs) (g : w.grownBy w' none) : w'.ownsRow b e size v n xs :=
  h.kept g (by cases v.ownBlock <;> simp)

/-- The sort's call, in ZZOrder's world. -/
theorem sort_here (p4 p6 : Addr) {PA : List (List Int × List Int)} {w w1 wr : World} {n : Nat} {v v2 : Value} {I : List Dst} (hn0 : 0 < n) (hn1 : n ≤ 1000) (B1 : Below w.heap.size w w1) (E : EnvO p4 p6 w) (A : LoopA PA w n v I w1) (hPl : PA.length = n) (S : LoopB p4 p6 I w1 n v2 wr) :
    Calls Tryd.prog 43 #[v, v2] wr fun e w' => e = .returned (.tuple #[]) ∧ ∃ xs, Ordd (cfI I) n xs ∧ w'.ownsRow w.heap.size 74 2 v n (rowL I xs) ∧ Below w.heap.size w w' := by
  have hIl := A.len (by omega)
  obtain ⟨a1, a2, a3, a4⟩ := A
  obtain ⟨s1, s2⟩ := S
  have hs := B1.size
  have Bw : Below w.heap.size w wr := B1.trans (s1.mono hs)
  have a5 : wr.ownsRow w.heap.size 74 2 v n (rowL I (List.range n)) := own_none a2 ((below_none s1))
  obtain ⟨g, cl, rfl, hg1, hg2⟩ := a5.form hn0
  obtain ⟨gs, cs, rfl, _, _⟩ := s2.form hn0
  have T := sortBy_any p4 p6 w.heap.size g cl gs cs n I hIl hn0 (by omega) wr (E.below Bw).net (fun r hr => by
    obtain ⟨⟨d1, d2, d3, d4⟩, _⟩ := a4 r hr
    exact ⟨d1, d2, d3.below s1, d4⟩) a5 (ownsRow_base s2 hs)
  refine T.mono ?_
  rintro e w' ⟨rfl, xs, h1, h2, h3, _⟩
  exact ⟨rfl, xs, h1, h2, below_grown Bw h3 (Nat.le_refl _) (fun k hk => by cases hk; exact hg1)⟩

set_option maxHeartbeats 8000000 in
set_option maxRecDepth 1000000 in
theorem zzOrder_some (p4 p6 : Addr) (bA oA bS oS cA cS n : Nat) (rA rS : List (Option Addr × List Int × Nat)) (hA : rA.length = n) (hS : rS.length = n) (hn0 : 0 < n) (hn1 : n ≤ 1000) (w : World) (E : EnvO p4 p6 w)
    (KA : ∀ r ∈ rA, isB r.2.1 = true ∧ HoldsB w r.1 r.2.1) (KS : ∀ r ∈ rS, HoldsB w r.1 r.2.1) (lA : bA < w.heap.size) (lS : bS < w.heap.size)
    (CA : ∀ i r, rA[i]? = some r → w.cell? ⟨bA, oA + i, none⟩ = some (.slice r.1 r.2.1.length r.2.2)) (CS : ∀ i r, rS[i]? = some r → w.cell? ⟨bS, oS + i, none⟩ = some (.slice r.1 r.2.1.length r.2.2)) :
    Calls Tryd.prog 33 #[.slice (some ⟨bA, oA, none⟩) n cA, .slice (some ⟨bS, oS, none⟩) n cS] w (OrdEnd ((rA.map (·.2.1)).zip (rS.map (·.2.1))) n w) := by
  obtain ⟨i5, hi5, hz5, hs5, hb5⟩ := info_parts Tryd.info5
  obtain ⟨i74, hi74, hz74, hs74, hb74⟩ := info_parts Tryd.info74
  obtain ⟨i55, hi55, hz55, hs55, hb55⟩ := info_parts Tryd.info55
  obtain ⟨i3, hi3, hz3, hs3, hb3⟩ := info_parts Tryd.info3
  have I5 := Lib.hid (And.intro hi5 (And.intro hz5 (And.intro hs5 hb5)))
  have I74 := Lib.hid (And.intro hi74 (And.intro hz74 (And.intro hs74 hb74)))
  have I55 := Lib.hid (And.intro hi55 (And.intro hz55 (And.intro hs55 hb55)))
  have I3 := Lib.hid (And.intro hi3 (And.intro hz3 (And.intro hs3 hb3)))
  obtain ⟨PA, hPA⟩ : ∃ PA, PA = (rA.map (·.2.1)).zip (rS.map (·.2.1)) := ⟨_, rfl⟩
  have HPA := Lib.hid hPA
  have hPl : PA.length = n := by rw [hPA]; simp [hA, hS]
  have HPL := Lib.hid hPl
  have HLA := Lib.hid hA
  have HLS := Lib.hid hS
  have EE := Lib.hid E
  have HKA := Lib.hid KA
  have HKS := Lib.hid KS
  have HCA := Lib.hid CA
  have HCS := Lib.hid CS
  rw [← hPA]
  clear hi5 hz5 hs5 hb5 hi74 hz74 hs74 hb74 hi55 hz55 hs55 hb55 hi3 hz3 hs3 hb3 hPA hPl hA hS E KA KS CA CS
  have HA0 : Hid (LoopA PA w 0 (.slice none 0 0) [] w) := LoopA.start PA w
  go_enter Tryd.func33, Tryd.ntmps33
  go_wp2
  go_loopg [5, 20] n (fun kx s5 s20 wr => ∃ (i : Nat) (I : List Dst), s20 = .int .i64 i ∧ i ≤ n ∧ n - i ≤ kx ∧ Hid (LoopA PA w i s5 I wr))
  case atStart => exact ⟨0, [], by go_num, Nat.zero_le _, by omega, HA0⟩
  case round =>
    clear HA0
    obtain ⟨i, I, rfl, hin, hkx, HR⟩ := hrel
    by_cases hi : i < n
    · have hiz : (i : Int) < (n : Int) := by omega
      obtain ⟨⟨a, z, c⟩, hr⟩ : ∃ r, rA[i]? = some r := ⟨rA[i]'(by have := HLA.out; omega), List.getElem?_eq_getElem _⟩
      obtain ⟨⟨a', y, c'⟩, hr'⟩ : ∃ r, rS[i]? = some r := ⟨rS[i]'(by have := HLS.out; omega), List.getElem?_eq_getElem _⟩
      obtain ⟨hz1, hz2⟩ := HKA.out _ (List.mem_of_getElem? hr)
      have hy2 := HKS.out _ (List.mem_of_getElem? hr')
      simp only at hz1 hz2 hy2
      have hp : PA[i]? = some (z, y) := by rw [HPA.out, List.getElem?_zip_eq_some]; simp [hr, hr']
      have bel := HR.out.1
      have c0 := (bel.cell (p := ⟨bA, oA + i, none⟩) lA).trans (HCA.out i _ hr)
      simp only at c0
      have hlen := isB_len.1 hz1
      obtain ⟨bz, oz, rfl⟩ : ∃ b o, a = some ⟨b, o, none⟩ := by
        rcases hz2.2 with h | ⟨b, o, e, _⟩
        · rw [h] at hlen; simp at hlen
        · exact ⟨b, o, e⟩
      have NWS := Lib.hid ((hz2.below bel).news)
      have hz0 : 0 < z.length := by omega
      have hzm : z.length ≤ 16 := by omega
      have hsz0 : w.heap.size ≤ wr.heap.size := bel.size
      have OWN := Lib.hid HR.out.2.1
      have IT := Lib.hid (fun W (g : Below w.heap.size w W) => itoa_any i (by omega) W (EE.out.below g).tab)
      have BEL := Lib.hid bel
      have BY := Lib.hid (And.intro hz1 (And.intro hz2.1 (And.intro hy2.1 hp)))
      have ZL : Hid (∀ u ∈ z.map (Value.int .u8), u.oneCell' = true) := by
        intro u hu
        obtain ⟨q, _, rfl⟩ := List.mem_map.1 hu
        rfl
      clear hr hr' hz1 hz2 hy2 hp bel hlen
      obtain ⟨zl, hzl⟩ : ∃ zl, zl = z.length := ⟨_, rfl⟩
      rw [← hzl] at c0 hz0 hzm
      have HZL := Lib.hid hzl
      clear hzl
      go_wp2_with (first
        | (at_builtin; refine wpList_append_two rfl _ _ 59 22 rfl wr.heap.size 5 5 i5 (.int .u8 0) 1 1 Tryd.underlying59 Tryd.underlying22 I5.out.1 I5.out.2.1 I5.out.2.2.1 I5.out.2.2.2 rfl Nat.zero_lt_one (.slice none 0 0) 0 [] rfl (World.ownsRow_nil _ _ _ _) ⟨bz, oz, none⟩ zl c (z.map (Value.int .u8)) rfl ?_ NWS.out ZL.out hz0 ?_ ?_ (Nat.le_refl _) wr.heap.size rfl ?_; (all_goals try (first | (simp [HZL.out]; done) | (unfold maxLen; omega) | omega)); (intro g1 cap1 w1 hown hgrow hat hlt); have HO1 := Lib.hid hown; have HG1 := Lib.hid hgrow; have HAT1 := Lib.hid hat; have HLT1 := Lib.hid hlt; clear hown hgrow hat hlt)
        | (go_at_call 42; refine (IT.out _ (below_grown BEL.out HG1.out (Nat.le_refl _) (fun k hk => by cases hk))).mono ?_; rintro e w2 ⟨rfl, hg⟩; have HG2 := Lib.hid hg; have hs2 : wr.heap.size ≤ w2.heap.size := Nat.le_trans HG1.out.size hg.size; clear hg)
        | (at_builtin; refine wpList_append_lies _ rfl _ _ 71 rfl w.heap.size 74 i74 (.agg #[.slice none 0 0, .string ⟨#[]⟩]) 2 40 Tryd.underlying71 I74.out.1 I74.out.2.1 I74.out.2.2.1 I74.out.2.2.2 rfl (by decide) u5 i _ rfl ((own_none (own_none OWN.out HG1.out) (HG2.out.grown none)).alloc _) ⟨w2.heap.size, 0, none⟩ 1 1 [.slice (some ⟨g1, 0, none⟩) zl cap1, .string (numS i)] rfl rfl ?_ ?_ Nat.zero_lt_one ?_ ?_ ?_ _ rfl ?_; (first | exact World.news_of_block (heap_alloc_new w2 _) | skip); (first | (intro u hu; simp only [List.mem_cons, List.not_mem_nil, or_false] at hu; rcases hu with rfl | rfl <;> rfl) | skip); (all_goals try (first | (unfold maxLen; omega) | omega | (simp; omega))); (intro g2 cap2 w4 hown hgrow hat hlt); have HO4 := Lib.hid hown; have HG4 := Lib.hid hgrow; have HAT4 := Lib.hid hat; clear hown hgrow hat hlt))
      have NXT := Lib.hid (HR.out.step (y := y) BY.out.2.2.2 BY.out.1 BY.out.2.1 BY.out.2.2.1 (g1 := g1) (cap1 := cap1) (g2 := g2) (cap2 := cap2) (by have := HO1.out; rw [Nat.zero_add, HZL.out] at this; exact this) HG1.out (by have := HAT1.out; simpa [Value.ownBlock] using this) HLT1.out HG2.out (by have := HO4.out; rw [HZL.out] at this; exact this) (by have := HG4.out; rw [HZL.out] at this; exact this) (by have := HAT4.out; simpa using this))
      go_roundg (n - (i + 1))
      case measure => omega
      case rel => exact ⟨i + 1, _, by go_num, hi, Nat.le_refl _, NXT⟩
    · have hiz : ¬ (i : Int) < (n : Int) := by omega
      obtain rfl : n = i := by omega
      obtain ⟨g, cl, rfl, -, -⟩ := HR.out.2.1.form hn0
      have hbl := HR.out.1
      have hsz1 : w.heap.size ≤ wr.heap.size := hbl.size
      have BEL := Lib.hid hbl
      have HIL := HR.out.len (by rw [HPL.out]; exact Nat.le_refl _)
      have HB0 : Hid (LoopB p4 p6 I wr 0 (.slice none 0 0) wr) := LoopB.start p4 p6 I wr
      have HILH := Lib.hid HIL
      clear hbl HIL
      go_wp2
      obtain ⟨w1, hw1⟩ : ∃ w1, w1 = wr := ⟨_, rfl⟩
      rw [← hw1] at HR BEL HB0 hsz1 ⊢
      clear hw1 wr hkx
      go_loopg [8, 36] n (fun kx s8 s36 wr => ∃ (i : Nat), s36 = .int .i64 i ∧ i ≤ n ∧ n - i ≤ kx ∧ Hid (LoopB p4 p6 I w1 i s8 wr))
      case atStart => exact ⟨0, by go_num, Nat.zero_le _, by omega, HB0⟩
      case round =>
        clear HB0
        obtain ⟨i, rfl, hin, hkx, HR2⟩ := hrel
        by_cases hi : i < n
        · have hiz : (i : Int) < (n : Int) := by omega
          obtain ⟨⟨a', y, c'⟩, hr'⟩ : ∃ r, rS[i]? = some r := ⟨rS[i]'(by have := HLS.out; omega), List.getElem?_eq_getElem _⟩
          obtain ⟨⟨a, z, c⟩, hr⟩ : ∃ r, rA[i]? = some r := ⟨rA[i]'(by have := HLA.out; omega), List.getElem?_eq_getElem _⟩
          have hp : PA[i]? = some (z, y) := by rw [HPA.out, List.getElem?_zip_eq_some]; simp [hr, hr']
          have hy2 := HKS.out _ (List.mem_of_getElem? hr')
          simp only at hy2
          have bel := BEL.out.trans (HR2.out.1.mono hsz1)
          have c0 := (bel.cell (p := ⟨bS, oS + i, none⟩) lS).trans (HCS.out i _ hr')
          simp only at c0
          obtain ⟨r, hri, hry⟩ := HR.out.at (by rw [HPL.out]; exact Nat.le_refl _) hp
          have FS := Lib.hid (fun W (g : Below w.heap.size w W) => fromSlice p4 p6 a' y c' W ((EE.out.below g).net) (hy2.below g))
          have BE2 := Lib.hid bel
          have OWN := Lib.hid HR2.out.2
          have SN := Lib.hid (rowS_snoc p4 p6 I i hri)
          rw [hry] at SN
          have hsz2 : w1.heap.size ≤ wr.heap.size := HR2.out.1.size
          clear hr hr' hp hy2 bel hri hry
          generalize (famOf y).isSome = oky at *
          generalize y.length = yl at *
          generalize hiOf y = yh at *
          generalize loOf y = yo at *
          generalize zp p4 p6 (famOf y) = yz at *
          go_wp2_with (first
            | (go_at_call 36; refine (FS.out _ BE2.out).mono ?_; rintro e w2 ⟨rfl, hg⟩; have HG2 := Lib.hid hg; have hs2 : wr.heap.size ≤ w2.heap.size := hg.size; clear hg)
            | (at_builtin; refine wpList_append_lies _ rfl _ _ 75 rfl w1.heap.size 55 i55 (.agg #[.int .u64 0, .int .u64 0, .pointer none]) 3 24 Tryd.underlying75 I55.out.1 I55.out.2.1 I55.out.2.2.1 I55.out.2.2.2 rfl (by decide) u8 i _ rfl (((own_none OWN.out (HG2.out.grown none)).alloc _).alloc _) ⟨w2.heap.size + 1, 0, none⟩ 1 1 [.int .u64 yh, .int .u64 yo, .pointer yz] rfl rfl ?_ ?_ Nat.zero_lt_one ?_ ?_ ?_ _ rfl ?_; (first | exact World.news_of_block (by rw [show w2.heap.size + 1 = (w2.alloc (.cells #[.int .u64 yh, .int .u64 yo, .pointer yz] 55)).heap.size by simp]; exact heap_alloc_new _ _) | skip); (first | (intro u hu; simp only [List.mem_cons, List.not_mem_nil, or_false] at hu; rcases hu with rfl | rfl | rfl <;> rfl) | skip); (all_goals try (first | (unfold maxLen; omega) | omega | (simp; omega))); (intro g2 cap2 w4 hown hgrow hat hlt); have HO4 := Lib.hid hown; have HG4 := Lib.hid hgrow; clear hown hgrow hat hlt))
          have NXT : Hid (LoopB p4 p6 I w1 (i + 1) (.slice (some ⟨g2, 0, none⟩) (i + 1) cap2) w4) := ⟨below_grown (((HR2.out.1.trans (HG2.out.below.mono hsz2)).alloc (by omega) _).alloc (by simp; omega) _) HG4.out (Nat.le_refl _) (fun k hk => (own_ge OWN.out hk).1), by rw [SN.out]; exact HO4.out⟩
          go_roundg (n - (i + 1))
          case measure => omega
          case rel => exact ⟨i + 1, by go_num, hi, Nat.le_refl _, NXT⟩
        · have hiz : ¬ (i : Int) < (n : Int) := by omega
          obtain rfl : n = i := by omega
          have SRT := Lib.hid (fun E => sort_here p4 p6 hn0 hn1 BEL.out (E : EnvO p4 p6 w) HR.out HPL.out HR2.out)
          have SR2 := Lib.hid (SRT.out EE.out)
          clear SRT
          go_wp2_with (go_at_call 43; refine SR2.out.mono ?_; rintro e w3 ⟨rfl, xs, hxs, ho, hb⟩; have XS := Lib.hid hxs; have HO := Lib.hid ho; have HB := Lib.hid hb; clear hxs ho hb)
          have hgl : g < w3.heap.size := (own_ge HO.out rfl).2
          have HC0 : Hid (LoopC xs w3 0 (.slice none 0 0) w3) := LoopC.start xs w3
          have hsz3 : w.heap.size ≤ w3.heap.size := HB.out.size
          have XL : xs.length = n := by have := XS.out.1.length_eq; simpa using this
          have HXL := Lib.hid XL
          have IE : Hid (I.map (fun r : Dst => (r.2.2.1, r.2.2.2)) = PA) := by
            have := HR.out.2.2.1
            rwa [List.take_of_length_le (by rw [HPL.out]; exact Nat.le_refl _)] at this
          clear SR2 HR HR2 BEL hsz1 XL hkx
          go_loopg [13, 55] n (fun kx s13 s55 wr => ∃ (j : Nat), s55 = .int .i64 j ∧ j ≤ n ∧ n - j ≤ kx ∧ Hid (LoopC xs w3 j s13 wr))
          case atStart => exact ⟨0, by go_num, Nat.zero_le _, by omega, HC0⟩
          case round =>
            clear HC0
            obtain ⟨j, rfl, hjn, hkx, HR⟩ := hrel
            by_cases hj : j < n
            · have hjz : (j : Int) < (n : Int) := by omega
              obtain ⟨x, hx⟩ : ∃ x, xs[j]? = some x := ⟨xs[j]'(by have := HXL.out; omega), List.getElem?_eq_getElem _⟩
              have hxn : x < n := by
                have := XS.out.1.mem_iff.1 (List.mem_of_getElem? hx)
                simpa using this
              obtain ⟨⟨a, c, z, y⟩, hr⟩ : ∃ r, I[x]? = some r := ⟨I[x]'(by have := HILH.out; omega), List.getElem?_eq_getElem _⟩
              have l0 := rowL_cell HO.out j 0 x hx (by decide)
              have l1 := rowL_cell HO.out j 1 x hx (by decide)
              unfold cells2 at l0 l1
              rw [hr] at l0 l1
              have c0 : wr.cell? ⟨g, j * 2, none⟩ = some (.slice a z.length c) := (HR.out.1.cell (p := ⟨g, _, none⟩) hgl).trans l0
              have c1 : wr.cell? ⟨g, j * 2 + 1, none⟩ = some (.string (numS x)) := (HR.out.1.cell (p := ⟨g, _, none⟩) hgl).trans l1
              have AT := Lib.hid (fun W => atoi_any x (by omega) W)
              have OWN := Lib.hid HR.out.2
              have SN := Lib.hid (intsV_snoc hx)
              have hsz4 : w3.heap.size ≤ wr.heap.size := HR.out.1.size
              clear l0 l1 hr hx
              generalize z.length = zl at *
              generalize numS x = sn at *
              go_wp2_with (first
                | (go_at_call 44; refine (AT.out _).mono ?_; rintro e w4 ⟨rfl, hg⟩; have HG4 := Lib.hid hg; have hs4 : wr.heap.size + 1 ≤ w4.heap.size := (by have := hg.size; simp at this; omega); clear hg)
                | (at_builtin; refine wpList_append_lies _ rfl _ _ 34 rfl w3.heap.size 3 i3 (.int .i64 0) 1 8 Tryd.underlying34 I3.out.1 I3.out.2.1 I3.out.2.2.1 I3.out.2.2.2 rfl (by decide) u13 j _ rfl ((own_none (OWN.out.alloc _) (HG4.out.grown none)).alloc _) ⟨w4.heap.size, 0, none⟩ 1 1 [.int .i64 (x : Int)] rfl rfl ?_ ?_ Nat.zero_lt_one ?_ ?_ ?_ _ rfl ?_; (first | exact World.news_of_block (heap_alloc_new w4 _) | skip); (first | (intro u hu; simp only [List.mem_cons, List.not_mem_nil, or_false] at hu; rcases hu with rfl; rfl) | skip); (all_goals try (first | (unfold maxLen; omega) | omega | (simp; omega))); (intro g2 cap2 w5 hown hgrow hat hlt); have HO5 := Lib.hid hown; have HG5 := Lib.hid hgrow; clear hown hgrow hat hlt))
              have NXT : Hid (LoopC xs w3 (j + 1) (.slice (some ⟨g2, 0, none⟩) (j + 1) cap2) w5) := ⟨below_grown (((HR.out.1.alloc hsz4 _).trans (HG4.out.below.mono (by simp; omega))).alloc (by omega) _) HG5.out (Nat.le_refl _) (fun k hk => (own_ge OWN.out hk).1), by rw [SN.out]; exact HO5.out⟩
              go_roundg (n - (j + 1))
              case measure => omega
              case rel => exact ⟨j + 1, by go_num, hj, Nat.le_refl _, NXT⟩
            · have hjz : ¬ (j : Int) < (n : Int) := by omega
              obtain rfl : n = j := by omega
              go_wp2
              go_ret
              exact ⟨_, xs, I, rfl, IE.out, XS.out, HR.out.holds HXL.out, fun k hk => Nat.le_trans hsz3 (own_ge HR.out.2 hk).1, HB.out.trans (HR.out.1.mono hsz3)⟩
end Go.Proofs.YtbejikpopealdaaDoor
