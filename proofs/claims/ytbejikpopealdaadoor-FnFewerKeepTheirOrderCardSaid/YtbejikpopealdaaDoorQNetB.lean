/-
  What the three package variables z4, z6noz, z0 of net/netip hold in a world ('Net'), that this is kept by draws and new blocks, and how Go's '==' on handles runs there.
-/
import Derived.Test.YtbejikpopealdaaDoorQBytes
import Derived.LaidEqlPtr
namespace Go.Proofs.YtbejikpopealdaaDoor
open Go.RowKit

/-- The pointer within an address: none is the zero address, 'some false' one of IPv4, 'some true' one of IPv6. -/
def zp (p4 p6 : Addr) : Option Bool → Option Addr
  | none => none
  | some false => some p4
  | some true => some p6

/-- The three variables of net/netip, in this world. -/
structure Net (p4 p6 : Addr) (w : World) : Prop where
  g4 : w.cell? ⟨0, 0, none⟩ = some (.pointer (some p4))
  g6 : w.cell? ⟨1, 0, none⟩ = some (.pointer (some p6))
  g0 : w.cell? ⟨2, 0, none⟩ = some (.pointer none)
  ne : p4 ≠ p6
  b4 : ∃ c t, w.heap[p4.block]? = some (.cells c t (0, 0))
  b6 : ∃ c t, w.heap[p6.block]? = some (.cells c t (0, 0))
  sz : 2 < w.heap.size

theorem blk_lt {w : World} {b : Nat} {o : Obj} (h : w.heap[b]? = some o) : b < w.heap.size := by
  rcases Nat.lt_or_ge b w.heap.size with h' | h'
  · exact h'
  · rw [Array.getElem?_eq_none h'] at h; cases h

theorem Net.gr {p4 p6 : Addr} {w w' : World} (h : Net p4 p6 w) (g : Gr w w') : Net p4 p6 w' := by
  obtain ⟨h1, h2, h3, h4, ⟨c, t, h5⟩, ⟨c', t', h6⟩, h7⟩ := h
  refine ⟨g.cell (p := ⟨0, 0, none⟩) (by show 0 < w.heap.size; omega) h1, g.cell (p := ⟨1, 0, none⟩) (by show 1 < w.heap.size; omega) h2, g.cell (p := ⟨2, 0, none⟩) (by show 2 < w.heap.size; omega) h3, h4, ⟨c, t, ?_⟩, ⟨c', t', ?_⟩, Nat.lt_of_lt_of_le h7 g.size⟩
  · rw [g.below.block _ (blk_lt h5)]; exact h5
  · rw [g.below.block _ (blk_lt h6)]; exact h6
theorem Net.alloc {p4 p6 : Addr} {w : World} (h : Net p4 p6 w) (o : Obj) : Net p4 p6 (w.alloc o) := h.gr ((Gr.refl w).alloc o)
theorem Net.drew {p4 p6 : Addr} {w : World} (h : Net p4 p6 w) : Net p4 p6 w.drew := h.gr (Gr.refl w).drew

theorem nilEq (p : Option Addr) (w : World) : (Op.equalIn 9999 51 (.pointer p) (.pointer none)).run Tryd.prog w = .ok p.isNone w := by
  have h : ∀ d : Nat, (Op.equalIn (d + 1) 51 (.pointer p) (.pointer none)).run Tryd.prog w = .ok p.isNone w := fun d => by
    cases p <;> simp [Op.equalIn, run_underlying Tryd.underlying51]
  exact h 9998
theorem nilEq' (p : Option Addr) (w : World) : (Op.equalIn 9999 51 (.pointer none) (.pointer p)).run Tryd.prog w = .ok p.isNone w := by
  have h : ∀ d : Nat, (Op.equalIn (d + 1) 51 (.pointer none) (.pointer p)).run Tryd.prog w = .ok p.isNone w := fun d => by
    cases p <;> simp [Op.equalIn, run_underlying Tryd.underlying51]
  exact h 9998
theorem some165 : (Tryd.prog.info? 165).map (·.size) = some 2 := by kernel_rfl
theorem sameEq (a : Addr) (w : World) : (Op.equalIn 9999 51 (.pointer (some a)) (.pointer (some a))).run Tryd.prog w = .ok true w := by
  have h2 := some165
  rw [Option.map_eq_some_iff] at h2
  obtain ⟨j, hj, hs⟩ := h2
  have h : ∀ d : Nat, (Op.equalIn (d + 1) 51 (.pointer (some a)) (.pointer (some a))).run Tryd.prog w = .ok true w := fun d => by
    simp [Op.equalIn, run_underlying Tryd.underlying51, sizeOf, typeInfo, hj, run_sameAddr_same]
  exact h 9998
theorem otherEq {a b : Addr} {w : World} (hne : a ≠ b) {ca cb : Array Value} {ta tb : TypeId} (ha : w.heap[a.block]? = some (.cells ca ta (0, 0))) (hb : w.heap[b.block]? = some (.cells cb tb (0, 0))) :
    (Op.equalIn 9999 51 (.pointer (some a)) (.pointer (some b))).run Tryd.prog w = .ok false w := by
  have h2 := some165
  rw [Option.map_eq_some_iff] at h2
  obtain ⟨j, hj, hs⟩ := h2
  have h : ∀ d : Nat, (Op.equalIn (d + 1) 51 (.pointer (some a)) (.pointer (some b))).run Tryd.prog w = .ok false w := fun d => by
    simp [Op.equalIn, run_underlying Tryd.underlying51, sizeOf, typeInfo, hj, hs, run_sameAddr_other w hne ha hb]
  exact h 9998
theorem Net.eq46 {p4 p6 : Addr} {w : World} (h : Net p4 p6 w) : (Op.equalIn 9999 51 (.pointer (some p4)) (.pointer (some p6))).run Tryd.prog w = .ok false w := by
  obtain ⟨c, t, h5⟩ := h.b4
  obtain ⟨c', t', h6⟩ := h.b6
  exact otherEq h.ne h5 h6
theorem Net.eq64 {p4 p6 : Addr} {w : World} (h : Net p4 p6 w) : (Op.equalIn 9999 51 (.pointer (some p6)) (.pointer (some p4))).run Tryd.prog w = .ok false w := by
  obtain ⟨c, t, h5⟩ := h.b4
  obtain ⟨c', t', h6⟩ := h.b6
  exact otherEq (fun e => h.ne e.symm) h6 h5

def adr (p4 p6 : Addr) (k : Option Bool) (hi lo : Int) : Value := .agg #[.int .u64 hi, .int .u64 lo, .pointer (zp p4 p6 k)]

set_option maxHeartbeats 1000000 in
set_option maxRecDepth 100000 in
theorem isZero_any (p4 p6 : Addr) (k : Option Bool) (hi lo : Int) (w : World) (N : Net p4 p6 w) :
    Calls Tryd.prog 71 #[.agg #[.int .u64 hi, .int .u64 lo, .pointer (zp p4 p6 k)]] w fun e w' => e = .returned (.bool k.isNone) ∧ Gr w w' := by
  have G0 := N.g0
  have S := N.sz
  have e1 := nilEq
  have T : Hid _ := Lib.hid N
  clear N
  rcases k with _ | (_ | _) <;> simp only [zp] <;>
  · go_enter Tryd.func71, Tryd.ntmps71
    go_wp2
    go_ret
    exact ⟨rfl, (Gr.refl w).alloc _⟩
end Go.Proofs.YtbejikpopealdaaDoor
/-
  The small questions on a netip.Addr: valid, four, six, zone, length in bits.
-/
namespace Go.Proofs.YtbejikpopealdaaDoor
open Go.RowKit

/-- How many bits an address has. -/
def bitLen : Option Bool → Int
  | none => 0
  | some false => 32
  | some true => 128

set_option maxHeartbeats 1000000 in
set_option maxRecDepth 100000 in
theorem isValid_any (p4 p6 : Addr) (k : Option Bool) (hi lo : Int) (w : World) (N : Net p4 p6 w) :
    Calls Tryd.prog 82 #[.agg #[.int .u64 hi, .int .u64 lo, .pointer (zp p4 p6 k)]] w fun e w' => e = .returned (.bool k.isSome) ∧ Gr w w' := by
  have G0 := N.g0
  have G4 := N.g4
  have G6 := N.g6
  have S2 := N.sz
  have S1 : 1 < w.heap.size := by omega
  have S0 : 0 < w.heap.size := by omega
  have e1 := nilEq
  have e2 := sameEq
  have e5 := nilEq'
  rcases k with _ | (_ | _) <;> simp only [zp] <;>
  · have e3 := (N.alloc (.cells #[.int .u64 hi, .int .u64 lo, .pointer (some p4)] 55)).eq46
    have e4 := (N.alloc (.cells #[.int .u64 hi, .int .u64 lo, .pointer (some p6)] 55)).eq64
    have T : Hid _ := Lib.hid N
    clear N
    go_enter Tryd.func82, Tryd.ntmps82
    go_wp2
    go_ret
    exact ⟨rfl, (Gr.refl w).alloc _⟩

set_option maxHeartbeats 1000000 in
set_option maxRecDepth 100000 in
theorem is4_any (p4 p6 : Addr) (k : Option Bool) (hi lo : Int) (w : World) (N : Net p4 p6 w) :
    Calls Tryd.prog 56 #[.agg #[.int .u64 hi, .int .u64 lo, .pointer (zp p4 p6 k)]] w fun e w' => e = .returned (.bool (k == some false)) ∧ Gr w w' := by
  have G0 := N.g0
  have G4 := N.g4
  have G6 := N.g6
  have S2 := N.sz
  have S1 : 1 < w.heap.size := by omega
  have S0 : 0 < w.heap.size := by omega
  have e1 := nilEq
  have e2 := sameEq
  have e5 := nilEq'
  rcases k with _ | (_ | _) <;> simp only [zp] <;>
  · have e3 := (N.alloc (.cells #[.int .u64 hi, .int .u64 lo, .pointer (some p4)] 55)).eq46
    have e4 := (N.alloc (.cells #[.int .u64 hi, .int .u64 lo, .pointer (some p6)] 55)).eq64
    have T : Hid _ := Lib.hid N
    clear N
    go_enter Tryd.func56, Tryd.ntmps56
    go_wp2
    go_ret
    exact ⟨rfl, (Gr.refl w).alloc _⟩

set_option maxHeartbeats 1000000 in
set_option maxRecDepth 100000 in
theorem is6_any (p4 p6 : Addr) (k : Option Bool) (hi lo : Int) (w : World) (N : Net p4 p6 w) :
    Calls Tryd.prog 51 #[.agg #[.int .u64 hi, .int .u64 lo, .pointer (zp p4 p6 k)]] w fun e w' => e = .returned (.bool (k == some true)) ∧ Gr w w' := by
  have G0 := N.g0
  have G4 := N.g4
  have G6 := N.g6
  have S2 := N.sz
  have S1 : 1 < w.heap.size := by omega
  have S0 : 0 < w.heap.size := by omega
  have e1 := nilEq
  have e2 := sameEq
  have e5 := nilEq'
  rcases k with _ | (_ | _) <;> simp only [zp] <;>
  · have e3 := (N.alloc (.cells #[.int .u64 hi, .int .u64 lo, .pointer (some p4)] 55)).eq46
    have e4 := (N.alloc (.cells #[.int .u64 hi, .int .u64 lo, .pointer (some p6)] 55)).eq64
    have T : Hid _ := Lib.hid N
    clear N
    go_enter Tryd.func51, Tryd.ntmps51
    go_wp2
    go_ret
    exact ⟨rfl, (Gr.refl w).alloc _⟩

set_option maxHeartbeats 1000000 in
set_option maxRecDepth 100000 in
theorem hasZone_any (p4 p6 : Addr) (k : Option Bool) (hi lo : Int) (w : World) (N : Net p4 p6 w) :
    Calls Tryd.prog 75 #[.agg #[.int .u64 hi, .int .u64 lo, .pointer (zp p4 p6 k)]] w fun e w' => e = .returned (.bool false) ∧ Gr w w' := by
  have G0 := N.g0
  have G4 := N.g4
  have G6 := N.g6
  have S2 := N.sz
  have S1 : 1 < w.heap.size := by omega
  have S0 : 0 < w.heap.size := by omega
  have e1 := nilEq
  have e2 := sameEq
  have e5 := nilEq'
  rcases k with _ | (_ | _) <;> simp only [zp] <;>
  · have e3 := (N.alloc (.cells #[.int .u64 hi, .int .u64 lo, .pointer (some p4)] 55)).eq46
    have e4 := (N.alloc (.cells #[.int .u64 hi, .int .u64 lo, .pointer (some p6)] 55)).eq64
    have T : Hid _ := Lib.hid N
    clear N
    go_enter Tryd.func75, Tryd.ntmps75
    go_wp2
    go_ret
    exact ⟨rfl, (Gr.refl w).alloc _⟩

set_option maxHeartbeats 1000000 in
set_option maxRecDepth 100000 in
theorem bitLen_any (p4 p6 : Addr) (k : Option Bool) (hi lo : Int) (w : World) (N : Net p4 p6 w) :
    Calls Tryd.prog 72 #[.agg #[.int .u64 hi, .int .u64 lo, .pointer (zp p4 p6 k)]] w fun e w' => e = .returned (.int .i64 (bitLen k)) ∧ Gr w w' := by
  have G0 := N.g0
  have G4 := N.g4
  have G6 := N.g6
  have S2 := N.sz
  have S1 : 1 < w.heap.size := by omega
  have S0 : 0 < w.heap.size := by omega
  have e1 := nilEq
  have e2 := sameEq
  have e5 := nilEq'
  rcases k with _ | (_ | _) <;> simp only [zp] <;>
  · have e3 := (N.alloc (.cells #[.int .u64 hi, .int .u64 lo, .pointer (some p4)] 55)).eq46
    have e4 := (N.alloc (.cells #[.int .u64 hi, .int .u64 lo, .pointer (some p6)] 55)).eq64
    have T : Hid _ := Lib.hid N
    clear N
    go_enter Tryd.func72, Tryd.ntmps72
    go_wp2
    go_ret
    exact ⟨rfl, (Gr.refl w).alloc _⟩
end Go.Proofs.YtbejikpopealdaaDoor
