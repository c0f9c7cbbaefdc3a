/-
  spec.Wide and laws.is, walked: an address as sixteen bytes.
-/
import Derived.Test.YtbejikpopealdaaDoorQCplB
namespace Go.Proofs.YtbejikpopealdaaDoor
open Go.RowKit

/-- An address of so many bytes. -/
def isB (zs : List Int) : Bool := zs.length == 4 || zs.length == 16
/-- The sixteen bytes. -/
def wide (zs : List Int) : List Int := if zs.length = 4 then [0, 0, 0, 0, 0, 0, 0, 0, 0, 0, 255, 255] ++ zs else zs

set_option maxHeartbeats 1000000 in
theorem is_any (a : Option Addr) (n c : Nat) (w : World) :
    Calls Tryd.prog 15 #[.slice a n c] w fun e w' => e = .returned (.bool (n == 4 || n == 16)) ∧ w = w' := by
  by_cases h4 : n = 4
  · subst h4
    go_enter Tryd.func15, Tryd.ntmps15
    go_wp2
    go_ret
    exact ⟨rfl, rfl⟩
  · by_cases h16 : n = 16
    · subst h16
      go_enter Tryd.func15, Tryd.ntmps15
      go_wp2
      go_ret
      exact ⟨rfl, rfl⟩
    · have k4 : ((n : Int) == 4) = false := by rw [beq_eq_false_iff_ne]; omega
      have k16 : ((n : Int) == 16) = false := by rw [beq_eq_false_iff_ne]; omega
      have e : (n == 4 || n == 16) = false := by simp [h4, h16]
      rw [e]
      clear e h4 h16
      go_enter Tryd.func15, Tryd.ntmps15
      go_wp2
      go_ret
      exact ⟨rfl, rfl⟩

/-- What Wide leaves: the wide bytes in a slice, and that nothing old has turned. -/
def WideEnd (zs : List Int) (w : World) (e : Ending) (w' : World) : Prop :=
  ∃ a c, e = .returned (.tuple #[.slice a 16 c, .bool true]) ∧ 16 ≤ c ∧ HoldsB w' a (wide zs) ∧ Below w.heap.size w w'

theorem wide_len {zs : List Int} (h : zs.length = 4 ∨ zs.length = 16) : (wide zs).length = 16 := by
  unfold wide; split
  · rw [List.length_append]; simp; omega
  · omega

set_option maxHeartbeats 1000000 in
set_option maxRecDepth 100000 in
theorem wide_16 (a : Option Addr) (zs : List Int) (c : Nat) (hl : zs.length = 16) (hc : 16 ≤ c) (w : World) (h : HoldsB w a zs) :
    Calls Tryd.prog 20 #[.slice a 16 c] w (WideEnd zs w) := by
  have HH := Lib.hid h
  have HE : Hid (wide zs = zs) := by show _ = _; unfold wide; rw [if_neg (by omega)]
  clear h hl
  go_enter Tryd.func20, Tryd.ntmps20
  go_wp2
  go_ret2
  exact ⟨a, c, rfl, hc, by rw [HE.out]; exact HH.out, Below.refl _ _⟩

set_option maxHeartbeats 1000000 in
set_option maxRecDepth 100000 in
theorem wide_no (a : Option Addr) (n c : Nat) (h4 : n ≠ 4) (h16 : n ≠ 16) (w : World) :
    Calls Tryd.prog 20 #[.slice a n c] w fun e w' => e = .returned (.tuple #[.slice none 0 0, .bool false]) ∧ w = w' := by
  have k4 : ((n : Int) == 4) = false := by rw [beq_eq_false_iff_ne]; omega
  have k16 : ((n : Int) == 16) = false := by rw [beq_eq_false_iff_ne]; omega
  clear h4 h16
  go_enter Tryd.func20, Tryd.ntmps20
  go_wp2
  go_ret2
  exact ⟨rfl, rfl⟩

set_option maxHeartbeats 2000000 in
set_option maxRecDepth 100000 in
theorem wide_4 (a : Option Addr) (zs : List Int) (c : Nat) (hl : zs.length = 4) (w : World) (h : HoldsB w a zs) :
    Calls Tryd.prog 20 #[.slice a 4 c] w (WideEnd zs w) := by
  have HH := Lib.hid h
  have HL := Lib.hid hl
  have HE : Hid (wide zs = [0, 0, 0, 0, 0, 0, 0, 0, 0, 0, 255, 255] ++ zs) := by show _ = _; unfold wide; rw [if_pos hl]
  rcases h.2 with rfl | ⟨b, off, rfl, hbk, _⟩
  · simp at hl
  obtain ⟨i0, hi, hz0, hz1, hz2⟩ := info_parts Tryd.info5
  clear h hl
  go_enter Tryd.func20, Tryd.ntmps20
  have OW := Lib.hid (World.ownsRow_lit (base := w.heap.size) (e := 5) (size := 1) w #[.int .u8 0, .int .u8 0, .int .u8 0, .int .u8 0, .int .u8 0, .int .u8 0, .int .u8 0, .int .u8 0, .int .u8 0, .int .u8 0, .int .u8 255, .int .u8 255] 12 (Nat.le_refl _) (by simp [maxLen]) (by simp))
  have NW : Hid (∀ o, ∀ j u, (zs.map (Value.int .u8))[j]? = some u → (w.alloc o).cell? ((⟨b, off, none⟩ : Addr).add j) = some u) := fun o => (HH.out.gr ((Gr.refl w).alloc o)).news
  go_wp2_with (first
    | (at_builtin; refine wpList_append_lies _ rfl _ _ 22 rfl w.heap.size 5 i0 (.int .u8 0) 1 1 Tryd.underlying22 hi hz0 hz1 hz2 rfl Nat.zero_lt_one (.slice (some ⟨w.heap.size, 0, none⟩) 12 12) 12 [.int .u8 0, .int .u8 0, .int .u8 0, .int .u8 0, .int .u8 0, .int .u8 0, .int .u8 0, .int .u8 0, .int .u8 0, .int .u8 0, .int .u8 255, .int .u8 255] rfl OW.out ⟨b, off, none⟩ 4 c (zs.map (Value.int .u8)) rfl ?_ (NW.out _) ?_ (Nat.succ_pos 3) ?_ ?_ ?_ _ rfl ?_; (all_goals try (first | (simp [HL.out]; done) | (simp [Value.oneCell']; done) | (simp [maxLen]; done) | (simp; done))); (intro g cap w2 hown hgrow hat hlt); have HOwn := Lib.hid hown; have HLt := Lib.hid hlt; have HGr := Lib.hid hgrow; clear hown hgrow hat hlt))
  go_ret2
  have B2 : Below w.heap.size w w2 := ((Below.refl w.heap.size w).alloc (Nat.le_refl _) _).grown HGr.out (by simp) (fun k hk => by cases hk; exact Nat.le_refl _)
  refine ⟨some ⟨g, 0, none⟩, cap, rfl, own_cap HOwn.out, ?_, B2⟩
  have hb : ∀ z ∈ wide zs, Byt z := by
    rw [HE.out]
    intro z hz
    rcases List.mem_append.1 hz with hz | hz
    · simp only [List.mem_cons, List.not_mem_nil, or_false] at hz
      rcases hz with h | h | h | h | h | h | h | h | h | h | h | h <;> (subst h; exact ⟨by omega, by omega⟩)
    · exact HH.out.1 z hz
  have hlen : (wide zs).length = 16 := wide_len (Or.inl HL.out)
  refine holdsB_own (base := w.heap.size) (cap := cap) hb ?_ HLt.out
  rw [hlen, HE.out, List.map_append]
  exact HOwn.out

/-- spec.Wide at an address. -/
theorem wide_any (a : Option Addr) (zs : List Int) (c : Nat) (hl : zs.length = 4 ∨ zs.length = 16) (hc : zs.length ≤ c) (w : World) (h : HoldsB w a zs) :
    Calls Tryd.prog 20 #[.slice a zs.length c] w (WideEnd zs w) := by
  rcases hl with hl | hl
  · have := wide_4 a zs c hl w h
    rwa [← hl] at this
  · have := wide_16 a zs c hl (by omega) w h
    rwa [← hl] at this
end Go.Proofs.YtbejikpopealdaaDoor
