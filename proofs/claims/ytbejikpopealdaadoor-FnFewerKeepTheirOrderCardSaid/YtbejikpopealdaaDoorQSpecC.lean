/-
  spec.Scope of the reference, walked: the scope of an address by its sixteen bytes.
-/
import Derived.Test.YtbejikpopealdaaDoorQSpecB
import Derived.Test.YtbejikpopealdaaDoorQPlainB
namespace Go.Proofs.YtbejikpopealdaaDoor
open Go.RowKit

/-- The address ::1. -/
def one16 : List Int := [0, 0, 0, 0, 0, 0, 0, 0, 0, 0, 0, 0, 0, 0, 0, 1]
theorem one16_byt : ∀ i, Byt (one16.getD i 0) := byt_getD (by
  intro z hz
  simp only [one16, List.mem_cons, List.not_mem_nil, or_false] at hz
  rcases hz with h | h | h | h | h | h | h | h | h | h | h | h | h | h | h | h <;> (subst h; exact ⟨by omega, by omega⟩))

def WideEnd' (ws : List Int) (w : World) (e : Ending) (w' : World) : Prop :=
  ∃ a c, e = .returned (.tuple #[.slice a 16 c, .bool true]) ∧ 16 ≤ c ∧ HoldsB w' a ws ∧ Below w.heap.size w w'

/-- The scope that RFC 6724 gives to sixteen bytes, as the reference reckons it. -/
def scopeW (x0 x1 x12 x13 : Int) (four one : Bool) : Int :=
  if four = true then (if (x12 == 127 || x12 == 169 && x13 == 254) = true then 2 else 14)
  else if (x0 == 255) = true then x1 % 16
  else if (x0 == 254 && bits .and .u8 x1 192 == 128) = true then 2
  else if (x0 == 254 && bits .and .u8 x1 192 == 192) = true then 5
  else if one = true then 2 else 14
def scopeS (ws : List Int) : Int := scopeW (ws.getD 0 0) (ws.getD 1 0) (ws.getD 12 0) (ws.getD 13 0) (startsB ws four16 96) (startsB ws one16 128)

set_option maxHeartbeats 4000000 in
set_option maxRecDepth 100000 in
theorem scope_four (_zs : List Int) (a : Option Addr) (n c : Nat) (ws : List Int) (x0 x1 x12 x13 : Int) (f1 : Bool) (hx0 : x0 = ws.getD 0 0) (hx1 : x1 = ws.getD 1 0) (hx12 : x12 = ws.getD 12 0) (hx13 : x13 = ws.getD 13 0) (WL : ws.length = 16) (w : World)
    (W2 : Hid (Calls Tryd.prog 20 #[.slice a n c] w (WideEnd' ws w))) (hf4 : startsB ws four16 96 = true) :
    Calls Tryd.prog 17 #[.slice a n c] w fun e w' => e = .returned (.int .i64 (scopeW x0 x1 x12 x13 true f1)) ∧ Below w.heap.size w w' := by
  have FF := Lib.hid hf4
  have WL' := Lib.hid WL
  unfold scopeW
  clear hf4 WL
  cases q1 : (x12 == 127) <;> cases q2 : (x12 == 169) <;> cases q3 : (x13 == 254) <;>
  · go_enter Tryd.func17, Tryd.ntmps17
    go_wp2_with fail
    refine W2.out.mono ?_
    rintro e w1 ⟨a1, c1, rfl, hc1, hh, hb⟩
    have hbt := fun i => byt_getD hh.1 i
    have HBT := Lib.hid hbt
    rcases hh.2 with h0 | ⟨b1, off1, rfl, hlt1, C⟩
    · have := WL'.out; rw [h0] at this; cases this
    have C' := Lib.hid (fun i (hi : i < 16) => C i (by rw [WL'.out]; exact hi))
    have HB := Lib.hid hb
    have k0 := C'.out 0 (by omega)
    have k1 := C'.out 1 (by omega)
    have k12 := C'.out 12 (by omega)
    have k13 := C'.out 13 (by omega)
    rw [← hx0] at k0
    rw [← hx1] at k1
    rw [← hx12] at k12
    rw [← hx13] at k13
    rw [Nat.add_zero] at k0
    have HX := Lib.hid (And.intro hx0 (And.intro hx1 (And.intro hx12 hx13)))
    clear hbt hh C hb hx0 hx1 hx12 hx13
    go_wp2_with fail
    refine (isFour_any b1 off1 c1 ws _ hlt1 HBT.out C'.out).mono ?_
    rw [FF.out]
    rintro e w2 ⟨rfl, hg⟩
    obtain ⟨hc2, hf2⟩ := hg.cells
    have HG2 := Lib.hid hg
    clear hg
    go_wp2_with fail
    go_ret
    exact ⟨by first | rfl | simp, HB.out.trans (HG2.out.below.mono HB.out.size)⟩

set_option maxHeartbeats 4000000 in
set_option maxRecDepth 100000 in
theorem scope_255 (_zs : List Int) (a : Option Addr) (n c : Nat) (ws : List Int) (x0 x1 x12 x13 : Int) (f1 : Bool) (hx0 : x0 = ws.getD 0 0) (hx1 : x1 = ws.getD 1 0) (hx12 : x12 = ws.getD 12 0) (hx13 : x13 = ws.getD 13 0) (WL : ws.length = 16) (w : World)
    (W2 : Hid (Calls Tryd.prog 20 #[.slice a n c] w (WideEnd' ws w))) (hf4 : startsB ws four16 96 = false) (q1 : (x0 == 255) = true) (b1 : Byt x1) :
    Calls Tryd.prog 17 #[.slice a n c] w fun e w' => e = .returned (.int .i64 (scopeW x0 x1 x12 x13 false f1)) ∧ Below w.heap.size w w' := by
  have FF := Lib.hid hf4
  have WL' := Lib.hid WL
  unfold scopeW
  clear hf4 WL
  rw [q1]
  obtain ⟨y0, y1⟩ := b1
  go_enter Tryd.func17, Tryd.ntmps17
  go_wp2_with fail
  refine W2.out.mono ?_
  rintro e w1 ⟨a1, c1, rfl, hc1, hh, hb⟩
  have hbt := fun i => byt_getD hh.1 i
  have HBT := Lib.hid hbt
  rcases hh.2 with h0 | ⟨b1, off1, rfl, hlt1, C⟩
  · have := WL'.out; rw [h0] at this; cases this
  have C' := Lib.hid (fun i (hi : i < 16) => C i (by rw [WL'.out]; exact hi))
  have HB := Lib.hid hb
  have k0 := C'.out 0 (by omega)
  have k1 := C'.out 1 (by omega)
  have k12 := C'.out 12 (by omega)
  have k13 := C'.out 13 (by omega)
  rw [← hx0] at k0
  rw [← hx1] at k1
  rw [← hx12] at k12
  rw [← hx13] at k13
  rw [Nat.add_zero] at k0
  have HX := Lib.hid (And.intro hx0 (And.intro hx1 (And.intro hx12 hx13)))
  clear hbt hh C hb hx0 hx1 hx12 hx13
  go_wp2_with fail
  refine (isFour_any b1 off1 c1 ws _ hlt1 HBT.out C'.out).mono ?_
  rw [FF.out]
  rintro e w2 ⟨rfl, hg⟩
  obtain ⟨hc2, hf2⟩ := hg.cells
  have HG2 := Lib.hid hg
  clear hg
  go_wp2_with fail
  go_ret
  exact ⟨by first | rfl | simp, HB.out.trans (HG2.out.below.mono HB.out.size)⟩

set_option maxHeartbeats 4000000 in
set_option maxRecDepth 100000 in
theorem scope_fe (_zs : List Int) (a : Option Addr) (n c : Nat) (ws : List Int) (x0 x1 x12 x13 : Int) (f1 : Bool) (hx0 : x0 = ws.getD 0 0) (hx1 : x1 = ws.getD 1 0) (hx12 : x12 = ws.getD 12 0) (hx13 : x13 = ws.getD 13 0) (WL : ws.length = 16) (w : World)
    (W2 : Hid (Calls Tryd.prog 20 #[.slice a n c] w (WideEnd' ws w))) (hf4 : startsB ws four16 96 = false) (q1 : (x0 == 255) = false) (q2 : (x0 == 254) = true) (q3 : (bits .and .u8 x1 192 == 128 || bits .and .u8 x1 192 == 192) = true) :
    Calls Tryd.prog 17 #[.slice a n c] w fun e w' => e = .returned (.int .i64 (scopeW x0 x1 x12 x13 false f1)) ∧ Below w.heap.size w w' := by
  have FF := Lib.hid hf4
  have WL' := Lib.hid WL
  unfold scopeW
  clear hf4 WL
  rw [q1, q2]
  cases q4 : (bits .and .u8 x1 192 == 128)
  · have q5 : (bits .and .u8 x1 192 == 192) = true := by rw [q4] at q3; simpa using q3
    clear q3
    go_enter Tryd.func17, Tryd.ntmps17
    go_wp2_with fail
    refine W2.out.mono ?_
    rintro e w1 ⟨a1, c1, rfl, hc1, hh, hb⟩
    have hbt := fun i => byt_getD hh.1 i
    have HBT := Lib.hid hbt
    rcases hh.2 with h0 | ⟨b1, off1, rfl, hlt1, C⟩
    · have := WL'.out; rw [h0] at this; cases this
    have C' := Lib.hid (fun i (hi : i < 16) => C i (by rw [WL'.out]; exact hi))
    have HB := Lib.hid hb
    have k0 := C'.out 0 (by omega)
    have k1 := C'.out 1 (by omega)
    have k12 := C'.out 12 (by omega)
    have k13 := C'.out 13 (by omega)
    rw [← hx0] at k0
    rw [← hx1] at k1
    rw [← hx12] at k12
    rw [← hx13] at k13
    rw [Nat.add_zero] at k0
    have HX := Lib.hid (And.intro hx0 (And.intro hx1 (And.intro hx12 hx13)))
    clear hbt hh C hb hx0 hx1 hx12 hx13
    go_wp2_with fail
    refine (isFour_any b1 off1 c1 ws _ hlt1 HBT.out C'.out).mono ?_
    rw [FF.out]
    rintro e w2 ⟨rfl, hg⟩
    obtain ⟨hc2, hf2⟩ := hg.cells
    have HG2 := Lib.hid hg
    clear hg
    go_wp2_with fail
    go_ret
    exact ⟨by first | rfl | simp, HB.out.trans (HG2.out.below.mono HB.out.size)⟩
  · clear q3
    go_enter Tryd.func17, Tryd.ntmps17
    go_wp2_with fail
    refine W2.out.mono ?_
    rintro e w1 ⟨a1, c1, rfl, hc1, hh, hb⟩
    have hbt := fun i => byt_getD hh.1 i
    have HBT := Lib.hid hbt
    rcases hh.2 with h0 | ⟨b1, off1, rfl, hlt1, C⟩
    · have := WL'.out; rw [h0] at this; cases this
    have C' := Lib.hid (fun i (hi : i < 16) => C i (by rw [WL'.out]; exact hi))
    have HB := Lib.hid hb
    have k0 := C'.out 0 (by omega)
    have k1 := C'.out 1 (by omega)
    have k12 := C'.out 12 (by omega)
    have k13 := C'.out 13 (by omega)
    rw [← hx0] at k0
    rw [← hx1] at k1
    rw [← hx12] at k12
    rw [← hx13] at k13
    rw [Nat.add_zero] at k0
    have HX := Lib.hid (And.intro hx0 (And.intro hx1 (And.intro hx12 hx13)))
    clear hbt hh C hb hx0 hx1 hx12 hx13
    go_wp2_with fail
    refine (isFour_any b1 off1 c1 ws _ hlt1 HBT.out C'.out).mono ?_
    rw [FF.out]
    rintro e w2 ⟨rfl, hg⟩
    obtain ⟨hc2, hf2⟩ := hg.cells
    have HG2 := Lib.hid hg
    clear hg
    go_wp2_with fail
    go_ret
    exact ⟨by first | rfl | simp, HB.out.trans (HG2.out.below.mono HB.out.size)⟩

set_option maxHeartbeats 4000000 in
set_option maxRecDepth 100000 in
theorem scope_else (_zs : List Int) (a : Option Addr) (n c : Nat) (ws : List Int) (x0 x1 x12 x13 : Int) (f1 : Bool) (hx0 : x0 = ws.getD 0 0) (hx1 : x1 = ws.getD 1 0) (hx12 : x12 = ws.getD 12 0) (hx13 : x13 = ws.getD 13 0) (WL : ws.length = 16) (w : World)
    (W2 : Hid (Calls Tryd.prog 20 #[.slice a n c] w (WideEnd' ws w))) (hf4 : startsB ws four16 96 = false) (q1 : (x0 == 255) = false) (q2 : (x0 == 254) = false ∨ (x0 == 254) = true ∧ (bits .and .u8 x1 192 == 128) = false ∧ (bits .and .u8 x1 192 == 192) = false) (hf1 : startsB ws one16 128 = f1) :
    Calls Tryd.prog 17 #[.slice a n c] w fun e w' => e = .returned (.int .i64 (scopeW x0 x1 x12 x13 false f1)) ∧ Below w.heap.size w w' := by
  have FF := Lib.hid hf4
  have WL' := Lib.hid WL
  unfold scopeW
  clear hf4 WL
  have F1 := Lib.hid hf1
  clear hf1
  rw [q1]
  rcases q2 with q2 | ⟨q2, q3, q4⟩
  · rw [q2]
    cases f1
    · go_enter Tryd.func17, Tryd.ntmps17
      go_wp2_with fail
      refine W2.out.mono ?_
      rintro e w1 ⟨a1, c1, rfl, hc1, hh, hb⟩
      have hbt := fun i => byt_getD hh.1 i
      have HBT := Lib.hid hbt
      rcases hh.2 with h0 | ⟨b1, off1, rfl, hlt1, C⟩
      · have := WL'.out; rw [h0] at this; cases this
      have C' := Lib.hid (fun i (hi : i < 16) => C i (by rw [WL'.out]; exact hi))
      have HB := Lib.hid hb
      have k0 := C'.out 0 (by omega)
      have k1 := C'.out 1 (by omega)
      have k12 := C'.out 12 (by omega)
      have k13 := C'.out 13 (by omega)
      rw [← hx0] at k0
      rw [← hx1] at k1
      rw [← hx12] at k12
      rw [← hx13] at k13
      rw [Nat.add_zero] at k0
      have HX := Lib.hid (And.intro hx0 (And.intro hx1 (And.intro hx12 hx13)))
      clear hbt hh C hb hx0 hx1 hx12 hx13
      go_wp2_with fail
      refine (isFour_any b1 off1 c1 ws _ hlt1 HBT.out C'.out).mono ?_
      rw [FF.out]
      rintro e w2 ⟨rfl, hg⟩
      obtain ⟨hc2, hf2⟩ := hg.cells
      have HG2 := Lib.hid hg
      clear hg
      go_wp2_with fail
      have n0 : ∀ i, i < 16 → (w2.alloc (.cells #[.int .u8 0, .int .u8 0, .int .u8 0, .int .u8 0, .int .u8 0, .int .u8 0, .int .u8 0, .int .u8 0, .int .u8 0, .int .u8 0, .int .u8 0, .int .u8 0, .int .u8 0, .int .u8 0, .int .u8 0, .int .u8 1] 5)).cell? ⟨w2.heap.size, 0 + i, none⟩ = some (.int .u8 (one16.getD i 0)) := by
        intro i hi
        match i, hi with
        | 0, _ => simp [one16] | 1, _ => simp [one16] | 2, _ => simp [one16] | 3, _ => simp [one16] | 4, _ => simp [one16] | 5, _ => simp [one16] | 6, _ => simp [one16] | 7, _ => simp [one16] | 8, _ => simp [one16] | 9, _ => simp [one16] | 10, _ => simp [one16] | 11, _ => simp [one16] | 12, _ => simp [one16] | 13, _ => simp [one16] | 14, _ => simp [one16] | 15, _ => simp [one16]
        | n + 16, h => omega
      refine (starts_any b1 off1 c1 w2.heap.size 0 16 16 16 128 ws one16 _ (by omega) (by omega) (by omega) HBT.out one16_byt ?_ n0).mono ?_
      · intro i hi
        exact (HG2.out.trans ((Gr.refl w2).alloc _)).cell (p := ⟨b1, off1 + i, none⟩) hlt1 (C'.out i hi)
      rw [F1.out]
      rintro e w3 ⟨rfl, q, rfl⟩
      go_wp2
      go_ret
      exact ⟨rfl, (HB.out.trans (HG2.out.below.mono HB.out.size)).trans (((Gr.refl w2).alloc _).drewN q |>.below.mono (Nat.le_trans HB.out.size HG2.out.size))⟩
    · go_enter Tryd.func17, Tryd.ntmps17
      go_wp2_with fail
      refine W2.out.mono ?_
      rintro e w1 ⟨a1, c1, rfl, hc1, hh, hb⟩
      have hbt := fun i => byt_getD hh.1 i
      have HBT := Lib.hid hbt
      rcases hh.2 with h0 | ⟨b1, off1, rfl, hlt1, C⟩
      · have := WL'.out; rw [h0] at this; cases this
      have C' := Lib.hid (fun i (hi : i < 16) => C i (by rw [WL'.out]; exact hi))
      have HB := Lib.hid hb
      have k0 := C'.out 0 (by omega)
      have k1 := C'.out 1 (by omega)
      have k12 := C'.out 12 (by omega)
      have k13 := C'.out 13 (by omega)
      rw [← hx0] at k0
      rw [← hx1] at k1
      rw [← hx12] at k12
      rw [← hx13] at k13
      rw [Nat.add_zero] at k0
      have HX := Lib.hid (And.intro hx0 (And.intro hx1 (And.intro hx12 hx13)))
      clear hbt hh C hb hx0 hx1 hx12 hx13
      go_wp2_with fail
      refine (isFour_any b1 off1 c1 ws _ hlt1 HBT.out C'.out).mono ?_
      rw [FF.out]
      rintro e w2 ⟨rfl, hg⟩
      obtain ⟨hc2, hf2⟩ := hg.cells
      have HG2 := Lib.hid hg
      clear hg
      go_wp2_with fail
      have n0 : ∀ i, i < 16 → (w2.alloc (.cells #[.int .u8 0, .int .u8 0, .int .u8 0, .int .u8 0, .int .u8 0, .int .u8 0, .int .u8 0, .int .u8 0, .int .u8 0, .int .u8 0, .int .u8 0, .int .u8 0, .int .u8 0, .int .u8 0, .int .u8 0, .int .u8 1] 5)).cell? ⟨w2.heap.size, 0 + i, none⟩ = some (.int .u8 (one16.getD i 0)) := by
        intro i hi
        match i, hi with
        | 0, _ => simp [one16] | 1, _ => simp [one16] | 2, _ => simp [one16] | 3, _ => simp [one16] | 4, _ => simp [one16] | 5, _ => simp [one16] | 6, _ => simp [one16] | 7, _ => simp [one16] | 8, _ => simp [one16] | 9, _ => simp [one16] | 10, _ => simp [one16] | 11, _ => simp [one16] | 12, _ => simp [one16] | 13, _ => simp [one16] | 14, _ => simp [one16] | 15, _ => simp [one16]
        | n + 16, h => omega
      refine (starts_any b1 off1 c1 w2.heap.size 0 16 16 16 128 ws one16 _ (by omega) (by omega) (by omega) HBT.out one16_byt ?_ n0).mono ?_
      · intro i hi
        exact (HG2.out.trans ((Gr.refl w2).alloc _)).cell (p := ⟨b1, off1 + i, none⟩) hlt1 (C'.out i hi)
      rw [F1.out]
      rintro e w3 ⟨rfl, q, rfl⟩
      go_wp2
      go_ret
      exact ⟨rfl, (HB.out.trans (HG2.out.below.mono HB.out.size)).trans (((Gr.refl w2).alloc _).drewN q |>.below.mono (Nat.le_trans HB.out.size HG2.out.size))⟩
  · rw [q2, q3, q4]
    cases f1
    · go_enter Tryd.func17, Tryd.ntmps17
      go_wp2_with fail
      refine W2.out.mono ?_
      rintro e w1 ⟨a1, c1, rfl, hc1, hh, hb⟩
      have hbt := fun i => byt_getD hh.1 i
      have HBT := Lib.hid hbt
      rcases hh.2 with h0 | ⟨b1, off1, rfl, hlt1, C⟩
      · have := WL'.out; rw [h0] at this; cases this
      have C' := Lib.hid (fun i (hi : i < 16) => C i (by rw [WL'.out]; exact hi))
      have HB := Lib.hid hb
      have k0 := C'.out 0 (by omega)
      have k1 := C'.out 1 (by omega)
      have k12 := C'.out 12 (by omega)
      have k13 := C'.out 13 (by omega)
      rw [← hx0] at k0
      rw [← hx1] at k1
      rw [← hx12] at k12
      rw [← hx13] at k13
      rw [Nat.add_zero] at k0
      have HX := Lib.hid (And.intro hx0 (And.intro hx1 (And.intro hx12 hx13)))
      clear hbt hh C hb hx0 hx1 hx12 hx13
      go_wp2_with fail
      refine (isFour_any b1 off1 c1 ws _ hlt1 HBT.out C'.out).mono ?_
      rw [FF.out]
      rintro e w2 ⟨rfl, hg⟩
      obtain ⟨hc2, hf2⟩ := hg.cells
      have HG2 := Lib.hid hg
      clear hg
      go_wp2_with fail
      have n0 : ∀ i, i < 16 → (w2.alloc (.cells #[.int .u8 0, .int .u8 0, .int .u8 0, .int .u8 0, .int .u8 0, .int .u8 0, .int .u8 0, .int .u8 0, .int .u8 0, .int .u8 0, .int .u8 0, .int .u8 0, .int .u8 0, .int .u8 0, .int .u8 0, .int .u8 1] 5)).cell? ⟨w2.heap.size, 0 + i, none⟩ = some (.int .u8 (one16.getD i 0)) := by
        intro i hi
        match i, hi with
        | 0, _ => simp [one16] | 1, _ => simp [one16] | 2, _ => simp [one16] | 3, _ => simp [one16] | 4, _ => simp [one16] | 5, _ => simp [one16] | 6, _ => simp [one16] | 7, _ => simp [one16] | 8, _ => simp [one16] | 9, _ => simp [one16] | 10, _ => simp [one16] | 11, _ => simp [one16] | 12, _ => simp [one16] | 13, _ => simp [one16] | 14, _ => simp [one16] | 15, _ => simp [one16]
        | n + 16, h => omega
      refine (starts_any b1 off1 c1 w2.heap.size 0 16 16 16 128 ws one16 _ (by omega) (by omega) (by omega) HBT.out one16_byt ?_ n0).mono ?_
      · intro i hi
        exact (HG2.out.trans ((Gr.refl w2).alloc _)).cell (p := ⟨b1, off1 + i, none⟩) hlt1 (C'.out i hi)
      rw [F1.out]
      rintro e w3 ⟨rfl, q, rfl⟩
      go_wp2
      go_ret
      exact ⟨rfl, (HB.out.trans (HG2.out.below.mono HB.out.size)).trans (((Gr.refl w2).alloc _).drewN q |>.below.mono (Nat.le_trans HB.out.size HG2.out.size))⟩
    · go_enter Tryd.func17, Tryd.ntmps17
      go_wp2_with fail
      refine W2.out.mono ?_
      rintro e w1 ⟨a1, c1, rfl, hc1, hh, hb⟩
      have hbt := fun i => byt_getD hh.1 i
      have HBT := Lib.hid hbt
      rcases hh.2 with h0 | ⟨b1, off1, rfl, hlt1, C⟩
      · have := WL'.out; rw [h0] at this; cases this
      have C' := Lib.hid (fun i (hi : i < 16) => C i (by rw [WL'.out]; exact hi))
      have HB := Lib.hid hb
      have k0 := C'.out 0 (by omega)
      have k1 := C'.out 1 (by omega)
      have k12 := C'.out 12 (by omega)
      have k13 := C'.out 13 (by omega)
      rw [← hx0] at k0
      rw [← hx1] at k1
      rw [← hx12] at k12
      rw [← hx13] at k13
      rw [Nat.add_zero] at k0
      have HX := Lib.hid (And.intro hx0 (And.intro hx1 (And.intro hx12 hx13)))
      clear hbt hh C hb hx0 hx1 hx12 hx13
      go_wp2_with fail
      refine (isFour_any b1 off1 c1 ws _ hlt1 HBT.out C'.out).mono ?_
      rw [FF.out]
      rintro e w2 ⟨rfl, hg⟩
      obtain ⟨hc2, hf2⟩ := hg.cells
      have HG2 := Lib.hid hg
      clear hg
      go_wp2_with fail
      have n0 : ∀ i, i < 16 → (w2.alloc (.cells #[.int .u8 0, .int .u8 0, .int .u8 0, .int .u8 0, .int .u8 0, .int .u8 0, .int .u8 0, .int .u8 0, .int .u8 0, .int .u8 0, .int .u8 0, .int .u8 0, .int .u8 0, .int .u8 0, .int .u8 0, .int .u8 1] 5)).cell? ⟨w2.heap.size, 0 + i, none⟩ = some (.int .u8 (one16.getD i 0)) := by
        intro i hi
        match i, hi with
        | 0, _ => simp [one16] | 1, _ => simp [one16] | 2, _ => simp [one16] | 3, _ => simp [one16] | 4, _ => simp [one16] | 5, _ => simp [one16] | 6, _ => simp [one16] | 7, _ => simp [one16] | 8, _ => simp [one16] | 9, _ => simp [one16] | 10, _ => simp [one16] | 11, _ => simp [one16] | 12, _ => simp [one16] | 13, _ => simp [one16] | 14, _ => simp [one16] | 15, _ => simp [one16]
        | n + 16, h => omega
      refine (starts_any b1 off1 c1 w2.heap.size 0 16 16 16 128 ws one16 _ (by omega) (by omega) (by omega) HBT.out one16_byt ?_ n0).mono ?_
      · intro i hi
        exact (HG2.out.trans ((Gr.refl w2).alloc _)).cell (p := ⟨b1, off1 + i, none⟩) hlt1 (C'.out i hi)
      rw [F1.out]
      rintro e w3 ⟨rfl, q, rfl⟩
      go_wp2
      go_ret
      exact ⟨rfl, (HB.out.trans (HG2.out.below.mono HB.out.size)).trans (((Gr.refl w2).alloc _).drewN q |>.below.mono (Nat.le_trans HB.out.size HG2.out.size))⟩

/-- spec.Scope at an address. -/
theorem specScope (a : Option Addr) (zs : List Int) (c : Nat) (hl : zs.length = 4 ∨ zs.length = 16) (hc : zs.length ≤ c) (w : World) (h : HoldsB w a zs) :
    Calls Tryd.prog 17 #[.slice a zs.length c] w fun e w' => e = .returned (.int .i64 (scopeS (wide zs))) ∧ Below w.heap.size w w' := by
  have W2 : Hid (Calls Tryd.prog 20 #[.slice a zs.length c] w (WideEnd' (wide zs) w)) := wide_any a zs c hl hc w h
  have WL := wide_len hl
  have hb1 : Byt ((wide zs).getD 1 0) := by
    refine byt_getD ?_ 1
    intro z hz
    unfold wide at hz
    split at hz
    · rcases List.mem_append.1 hz with hz | hz
      · simp only [List.mem_cons, List.not_mem_nil, or_false] at hz
        rcases hz with h | h | h | h | h | h | h | h | h | h | h | h <;> (subst h; exact ⟨by omega, by omega⟩)
      · exact h.1 z hz
    · exact h.1 z hz
  unfold scopeS
  generalize hf1 : startsB (wide zs) one16 128 = f1
  cases hf4 : startsB (wide zs) four16 96 with
  | true => exact scope_four zs a _ c (wide zs) _ _ _ _ f1 rfl rfl rfl rfl WL w W2 hf4
  | false =>
    cases q1 : ((wide zs).getD 0 0 == 255) with
    | true => exact scope_255 zs a _ c (wide zs) _ _ _ _ f1 rfl rfl rfl rfl WL w W2 hf4 q1 hb1
    | false =>
      by_cases q2 : ((wide zs).getD 0 0 == 254) = true
      · by_cases q3 : (bits .and .u8 ((wide zs).getD 1 0) 192 == 128 || bits .and .u8 ((wide zs).getD 1 0) 192 == 192) = true
        · exact scope_fe zs a _ c (wide zs) _ _ _ _ f1 rfl rfl rfl rfl WL w W2 hf4 q1 q2 q3
        · have q4 := (Bool.or_eq_false_iff).1 (Bool.eq_false_iff.2 q3)
          exact scope_else zs a _ c (wide zs) _ _ _ _ f1 rfl rfl rfl rfl WL w W2 hf4 q1 (Or.inr ⟨q2, q4.1, q4.2⟩) hf1
      · exact scope_else zs a _ c (wide zs) _ _ _ _ f1 rfl rfl rfl rfl WL w W2 hf4 q1 (Or.inl (Bool.eq_false_iff.2 q2)) hf1
end Go.Proofs.YtbejikpopealdaaDoor
