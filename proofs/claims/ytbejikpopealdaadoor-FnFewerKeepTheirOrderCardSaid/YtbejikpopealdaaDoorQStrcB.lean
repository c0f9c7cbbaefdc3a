/-
  strconv.Itoa and strconv.Atoi at indices below 1000; the table of powers out of the row's condition.
-/
import Derived.Test.YtbejikpopealdaaDoorQStrc
import Derived.Test.YtbejikpopealdaaDoorQLaidB
import Derived.Lib.LaidTab
import Derived.Lib.AtoiTie
import Derived.LaidSub
namespace Go.Proofs.YtbejikpopealdaaDoor
open Go.RowKit

/-- What the order's walks ask of the world: the three variables of netip and the table of powers. -/
structure EnvO (p4 p6 : Addr) (w : World) : Prop where
  net : Net p4 p6 w
  tab : Lib.TabIs Tryd.prog w "internal/strconv.uint64pow10" .u64 Lib.pow10Tab

theorem tab5 : Tryd.prog.globalNamed "internal/strconv.uint64pow10" = some 5 := by kernel_rfl
theorem tab_gr {w w' : World} (h : Lib.TabIs Tryd.prog w "internal/strconv.uint64pow10" .u64 Lib.pow10Tab) (g : Gr w w') : Lib.TabIs Tryd.prog w' "internal/strconv.uint64pow10" .u64 Lib.pow10Tab := by
  unfold Lib.TabIs World.var? at h ⊢
  rw [tab5] at h ⊢
  simp only [Option.bind_some] at h ⊢
  have hl : 5 < w.heap.size := by
    rcases Nat.lt_or_ge 5 w.heap.size with h' | h'
    · exact h'
    · rw [Array.getElem?_eq_none h'] at h; cases h
  rw [g.below.block 5 hl]
  exact h
theorem EnvO.gr {p4 p6 : Addr} {w w' : World} (h : EnvO p4 p6 w) (g : Gr w w') : EnvO p4 p6 w' := ⟨h.net.gr g, tab_gr h.tab g⟩

theorem env_of_laid8 {W : World} (h : laidMetH Tryd.prog Rows.fnOrderRow.laid W) : ∃ p4 p6, EnvO p4 p6 W := by
  obtain ⟨p4, p6, N⟩ := net_of_laid8 h
  refine ⟨p4, p6, N, ?_⟩
  have h1 := laidMetH_iff.1 (laidMetH.filter (fun x => x.1 == "internal/strconv.uint64pow10") h)
  have e : Rows.fnOrderRow.laid.filter (fun x => x.1 == "internal/strconv.uint64pow10") = [("internal/strconv.uint64pow10", Lib.tabData .u64 Lib.pow10Tab)] := by
    rfl
  rw [e] at h1
  exact Lib.tabIs_of_head (g := 5) (t := 139) (e := 48) (n := 20) tab5 (by kernel_rfl) (by kernel_rfl) Tryd.underlying48 (by kernel_rfl) (by kernel_rfl) h1.1

/-- The numeral of an index. -/
def numS (i : Nat) : ByteArray := ⟨(Lib.decDigits i).toArray⟩
theorem itoa_any (i : Nat) (hi : i < 1000000) (w : World) (htab : Lib.TabIs Tryd.prog w "internal/strconv.uint64pow10" .u64 Lib.pow10Tab) :
    Calls Tryd.prog 42 #[.int .i64 i] w fun e w' => e = .returned (.string (numS i)) ∧ Gr w w' := by
  refine (Tryd.strconv_Itoa (i : Int) (by omega) (by omega) w htab).mono ?_
  rintro e w' ⟨rfl, k, os, rfl⟩
  rw [Lib.itoa_nonneg]
  exact ⟨rfl, Gr.of_grow k os⟩

theorem dig1 : ∀ a : Fin 10, Lib.atoi [UInt8.ofNat (48 + a.val)] = some (a.val : Int) := by decide +kernel
theorem dig2 : ∀ a b : Fin 10, Lib.atoi [UInt8.ofNat (48 + a.val), UInt8.ofNat (48 + b.val)] = some ((10 * a.val + b.val : Nat) : Int) := by decide +kernel
theorem dig3 : ∀ a b c : Fin 10, Lib.atoi [UInt8.ofNat (48 + a.val), UInt8.ofNat (48 + b.val), UInt8.ofNat (48 + c.val)] = some ((100 * a.val + 10 * b.val + c.val : Nat) : Int) := by decide +kernel
theorem dec_three {i : Nat} (h1 : ¬ i < 100) (h2 : i < 1000) : Lib.decDigits i = [UInt8.ofNat (48 + i / 100), UInt8.ofNat (48 + i / 10 % 10), UInt8.ofNat (48 + i % 10)] := by
  rw [Lib.decDigits, dif_neg (by omega), Lib.decDigits_two (by omega) (by omega), show i / 10 / 10 = i / 100 by omega]
  rfl
theorem atoi_dec {i : Nat} (h : i < 1000) : Lib.atoi (Lib.decDigits i) = some (i : Int) ∧ (Lib.decDigits i).length ≤ 3 := by
  by_cases h1 : i < 10
  · rw [Lib.decDigits_one h1]
    exact ⟨dig1 ⟨i, h1⟩, by simp⟩
  · by_cases h2 : i < 100
    · rw [Lib.decDigits_two h1 h2]
      refine ⟨?_, by simp⟩
      have := dig2 ⟨i / 10, by omega⟩ ⟨i % 10, by omega⟩
      simp only at this
      rw [this]
      congr 2; omega
    · rw [dec_three h2 h]
      refine ⟨?_, by simp⟩
      have := dig3 ⟨i / 100, by omega⟩ ⟨i / 10 % 10, by omega⟩ ⟨i % 10, by omega⟩
      simp only at this
      rw [this]
      congr 2; omega

theorem gr_bytesWorld (w : World) (s : ByteArray) : Gr w (Lib.bytesWorld w 5 s) := by
  unfold Lib.bytesWorld
  have g := (((Gr.refl w).drew).alloc (.cells (Lib.bytesCells w 5 s) 5))
  refine ⟨⟨rfl, rfl, rfl, ?_, fun b hb => ?_⟩, g.drawn⟩
  · simp [World.freeze]
  · have := g.below.block b hb
    rw [← this]
    show ((w.drew.alloc (Obj.cells (Lib.bytesCells w 5 s) 5)).heap.modify w.heap.size _)[b]? = _
    rw [Array.getElem?_modify, if_neg (by omega)]
theorem atoi_any (i : Nat) (hi : i < 1000) (w : World) :
    Calls Tryd.prog 44 #[.string (numS i)] w fun e w' => e = .returned (.tuple #[.int .i64 i, .nilIface]) ∧ Gr w w' := by
  obtain ⟨h1, h2⟩ := atoi_dec hi
  refine (Tryd.strconv_Atoi_ok (numS i) (by show (Lib.decDigits i).toArray.size ≤ _; simp; omega) i ?_ w).mono ?_
  · show Lib.atoiAll (Lib.decDigits i) = _
    rw [Lib.atoiAll_short _ (by omega), h1]
    rfl
  · rintro e w' ⟨rfl, rfl | ⟨t, rfl⟩⟩
    · exact ⟨rfl, Gr.refl _⟩
    · exact ⟨rfl, gr_bytesWorld _ _⟩
end Go.Proofs.YtbejikpopealdaaDoor
