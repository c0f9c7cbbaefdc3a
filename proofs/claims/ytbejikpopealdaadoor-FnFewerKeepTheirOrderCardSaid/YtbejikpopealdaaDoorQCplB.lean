/-
  ZZCommon of the package and six of the laws, walked; what append leaves of a row of bytes.
-/
import Derived.Test.YtbejikpopealdaaDoorQCplA
import Derived.Test.YtbejikpopealdaaDoorQAppend
namespace Go.Proofs.YtbejikpopealdaaDoor
open Go.RowKit

/-- An address of IPv6: sixteen bytes, not mapped. -/
def sixB (zs : List Int) : Bool := zs.length == 16 && !(startsB zs four16 96)

set_option maxHeartbeats 1000000 in
set_option maxRecDepth 100000 in
theorem six_any (a : Option Addr) (zs : List Int) (c : Nat) (w : World) (h : HoldsB w a zs) :
    Calls Tryd.prog 12 #[.slice a zs.length c] w fun e w' => e = .returned (.bool (sixB zs)) ∧ Gr w w' := by
  by_cases hl : zs.length = 16
  · have hs : sixB zs = !(startsB zs four16 96) := by unfold sixB; rw [hl]; rfl
    rw [hs, hl]
    have HB := Lib.hid (fun i => h.byt i)
    obtain ⟨_, h2⟩ := h
    rcases h2 with rfl | ⟨b, off, rfl, hb, C⟩
    · simp at hl
    have C' := Lib.hid (fun i (hi : i < 16) => C i (by omega))
    clear C hl hs
    go_enter Tryd.func12, Tryd.ntmps12
    go_wp2_with (go_at_call 27; refine (isFour_any b off c zs _ hb HB.out C'.out).mono ?_; rintro e w1 ⟨rfl, hg⟩; have HG := Lib.hid hg; clear hg)
    go_ret
    exact ⟨rfl, HG.out⟩
  · have hs : sixB zs = false := by unfold sixB; rw [beq_eq_false_iff_ne.2 hl]; rfl
    rw [hs]
    have k : ((zs.length : Int) == 16) = false := by rw [beq_eq_false_iff_ne]; omega
    obtain ⟨n, hn⟩ : ∃ n, n = zs.length := ⟨_, rfl⟩
    rw [← hn] at k ⊢
    clear hn hl hs h
    go_enter Tryd.func12, Tryd.ntmps12
    go_wp2
    go_ret
    exact ⟨rfl, Gr.refl w⟩

theorem Net.below {p4 p6 : Addr} {w w' : World} (h : Net p4 p6 w) (g : Below w.heap.size w w') : Net p4 p6 w' := by
  obtain ⟨h1, h2, h3, h4, ⟨c, t, h5⟩, ⟨c', t', h6⟩, h7⟩ := h
  refine ⟨(g.cell (p := ⟨0, 0, none⟩) (by show 0 < w.heap.size; omega)).trans h1, (g.cell (p := ⟨1, 0, none⟩) (by show 1 < w.heap.size; omega)).trans h2, (g.cell (p := ⟨2, 0, none⟩) (by show 2 < w.heap.size; omega)).trans h3, h4, ⟨c, t, ?_⟩, ⟨c', t', ?_⟩, Nat.lt_of_lt_of_le h7 g.size⟩
  · rw [g.block _ (blk_lt h5)]; exact h5
  · rw [g.block _ (blk_lt h6)]; exact h6

theorem HoldsB.below {w w' : World} {a : Option Addr} {zs : List Int} (h : HoldsB w a zs) (g : Below w.heap.size w w') : HoldsB w' a zs := by
  obtain ⟨h1, h2⟩ := h
  refine ⟨h1, ?_⟩
  rcases h2 with h2 | ⟨b, off, e, hb, hc⟩
  · exact Or.inl h2
  · exact Or.inr ⟨b, off, e, Nat.lt_of_lt_of_le hb g.size, fun i hi => (g.cell (p := ⟨b, off + i, none⟩) hb).trans (hc i hi)⟩

/-- The cells of a slice of bytes, as append asks for them. -/
theorem HoldsB.news {w : World} {b off : Nat} {zs : List Int} (h : HoldsB w (some ⟨b, off, none⟩) zs) : ∀ j u, (zs.map (Value.int .u8))[j]? = some u → w.cell? ((⟨b, off, none⟩ : Addr).add j) = some u := by
  intro j u hu
  obtain ⟨_, h2⟩ := h
  rcases h2 with rfl | ⟨b', off', e, hb, hc⟩
  · simp at hu
  · cases e
    have hj : j < zs.length := by
      rcases Nat.lt_or_ge j zs.length with h | h
      · exact h
      · rw [List.getElem?_eq_none (by simpa using h)] at hu; cases hu
    have := hc j hj
    rw [Addr.add_lit]
    rw [this, ← hu]
    simp [hj]

/-- A row of bytes that the call made itself. -/
theorem holdsB_own {w : World} {base g cap : Nat} {zs : List Int} (hb : ∀ z ∈ zs, Byt z) (h : w.ownsRow base 5 1 (.slice (some ⟨g, 0, none⟩) zs.length cap) zs.length (zs.map (Value.int .u8))) (hg : g < w.heap.size) : HoldsB w (some ⟨g, 0, none⟩) zs := by
  refine ⟨hb, Or.inr ⟨g, 0, rfl, hg, fun i hi => ?_⟩⟩
  have := h.cellAt i (by omega)
  rw [Nat.zero_add, this]
  simp [hi]

theorem below_fresh {w w' : World} (hg : w.grownBy w' (Value.slice none 0 0).ownBlock) : Below w.heap.size w w' :=
  (Below.refl _ w).grown hg (Nat.le_refl _) (fun k hk => by cases hk)
theorem below_cells {w w' : World} (h : Below w.heap.size w w') : (∀ b o, b < w.heap.size → w'.cell? ⟨b, o, none⟩ = w.cell? ⟨b, o, none⟩) ∧ (∀ b o, b < w.heap.size → w'.frozen? ⟨b, o, none⟩ = w.frozen? ⟨b, o, none⟩) :=
  ⟨fun b o hb => h.cell (p := ⟨b, o, none⟩) hb, fun b o hb => h.frozen (p := ⟨b, o, none⟩) hb⟩
theorem own_cap {w : World} {base : Nat} {e : TypeId} {g n cap : Nat} {xs : List Value} (h : w.ownsRow base e 1 (.slice (some ⟨g, 0, none⟩) n cap) n xs) : n ≤ cap := by
  rcases h.2 with ⟨h, _⟩ | ⟨g', cap', cur, h, _, _, hn, _⟩
  · cases h
  · cases h; exact hn

theorem Tryd.info5 : (Tryd.prog.info? 5).map (fun i => (i.zero, i.size, i.bytes)) = some (some (.int .u8 0), 1, 1) := by kernel_rfl

set_option maxHeartbeats 2000000 in
set_option maxRecDepth 100000 in
theorem zzCommon (p4 p6 : Addr) (a a' : Option Addr) (xs zs : List Int) (c c' : Nat) (hx : xs.length = 16) (hz : zs.length = 16) (hm : mapd zs = false) (w : World) (N : Net p4 p6 w) (h : HoldsB w a xs) (h' : HoldsB w a' zs) 
    (hv : 0 ≤ hiOf xs ∧ hiOf xs < 18446744073709551616 ∧ 0 ≤ loOf xs ∧ loOf xs < 18446744073709551616) :
    Calls Tryd.prog 28 #[.slice a 16 c, .slice a' 16 c'] w fun e w' => e = .returned (.int .i64 (cplN (bytes16 (hiOf xs) (loOf xs)) zs)) ∧ Below w.heap.size w w' := by
  have FS := fromSlice p4 p6 a xs c w N h
  have hf : famOf xs = some true := by unfold famOf; rw [if_neg (by omega), if_pos hx]
  rw [hx, hf] at FS
  have FS' := Lib.hid FS
  have NN := Lib.hid N
  have HZ := Lib.hid h'
  have HV := Lib.hid hv
  have HM := Lib.hid hm
  have HL := Lib.hid hz
  have hb' := h'.1
  have HB := Lib.hid hb'
  rcases h'.2 with rfl | ⟨b, off, rfl, hbk, _⟩
  · simp at hz
  obtain ⟨i0, hi, hz0, hz1, hz2⟩ := info_parts Tryd.info5
  generalize hiOf xs = hi' at *
  generalize loOf xs = lo' at *
  clear N h h' hm hv FS hf hb' hx hz
  go_enter Tryd.func28, Tryd.ntmps28
  go_wp2_with (go_at_call 36; refine FS'.out.mono ?_; rintro e w1 ⟨rfl, hg⟩; have HG := Lib.hid hg; clear hg)
  simp only [zp]
  have NW : Hid (∀ o, ∀ j u, (zs.map (Value.int .u8))[j]? = some u → ((w1.alloc o).drew).cell? ((⟨b, off, none⟩ : Addr).add j) = some u) := fun o => (HZ.out.gr ((HG.out.alloc o).drew)).news
  have NN1 : Hid (∀ o, Net p4 p6 (w1.alloc o).drew) := fun o => NN.out.gr ((HG.out.alloc o).drew)
  have HB0 := HB.out
  go_region_law (first
    | (refine step_append_two rfl _ _ 59 22 rfl (w1.heap.size + 1) 5 5 i0 (.int .u8 0) 1 1 Tryd.underlying59 Tryd.underlying22 hi hz0 hz1 hz2 rfl Nat.zero_lt_one (.slice none 0 0) 0 [] rfl (World.ownsRow_nil _ _ _ _) ⟨b, off, none⟩ 16 c' (zs.map (Value.int .u8)) rfl ?_ ?_ ?_ (Nat.succ_pos 15) ?_ ?_ ?_ _ rfl ?_; (all_goals try (first | exact NW.out _ | (simp [HL.out]; done) | (simp [Value.oneCell']; done) | (simp [maxLen]; done) | (simp; done))); (intro g cap w2 hown hgrow hat hlt); have HBl := Lib.hid (below_fresh hgrow); have HOwn := Lib.hid hown; have HLt := Lib.hid hlt; clear hown hgrow hat hlt; obtain ⟨hc, hf⟩ := below_cells HBl.out)
    | (go_simp; go_at_call 37; refine (cplLen_66 p4 p6 hi' lo' HV.out.1 HV.out.2.1 HV.out.2.2.1 HV.out.2.2.2 _ _ _ (own_cap HOwn.out) zs HL.out HM.out _ ((NN1.out _).below HBl.out) (holdsB_own (base := w1.heap.size + 1) (cap := cap) HB0 ?_ HLt.out)).mono ?_; (try exact (by rw [HL.out]; exact HOwn.out)); (rintro e w3 ⟨rfl, hg3⟩); have HG3 := Lib.hid hg3; clear hg3))
  all_goals
    go_wp2
    go_ret
    exact ⟨rfl, ((HG.out.alloc _).drew.below.trans (HBl.out.mono (by have := HG.out.size; simp; omega))).trans (HG3.out.below.mono (by have := HG.out.size; have := HBl.out.size; simp at this; omega))⟩
end Go.Proofs.YtbejikpopealdaaDoor
