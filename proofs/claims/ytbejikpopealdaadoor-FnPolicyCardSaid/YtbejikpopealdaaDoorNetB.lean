/-
  The small questions on a netip.Addr: valid, four, six, zone, length in bits.
-/
import Derived.Test.YtbejikpopealdaaDoorNetA
namespace Go.Proofs.YtbejikpopealdaaDoor
open Go.RowKit

/-- How many bits an address has. -/
def bitLen : Option Bool → Int
  | none => 0
  | some false => 32
  | some true => 128

set_option maxHeartbeats 1000000 in
set_option maxRecDepth 100000 in
theorem isValid_any (p4 p6 : Addr) (k : Option Bool) (hi lo : Int) (w : World) (N : Net p4 p6 w) :
    Calls Tryd.prog 82 #[.agg #[.int .u64 hi, .int .u64 lo, .pointer (zp p4 p6 k)]] w fun e w' => e = .returned (.bool k.isSome) ∧ Gr w w' := by
  have G0 := N.g0
  have G4 := N.g4
  have G6 := N.g6
  have S2 := N.sz
  have S1 : 1 < w.heap.size := by omega
  have S0 : 0 < w.heap.size := by omega
  have e1 := nilEq
  have e2 := sameEq
  have e5 := nilEq'
  rcases k with _ | (_ | _) <;> simp only [zp] <;>
  · have e3 := (N.alloc (.cells #[.int .u64 hi, .int .u64 lo, .pointer (some p4)] 55)).eq46
    have e4 := (N.alloc (.cells #[.int .u64 hi, .int .u64 lo, .pointer (some p6)] 55)).eq64
    have T : Hid _ := Lib.hid N
    clear N
    go_enter Tryd.func82, Tryd.ntmps82
    go_wp2
    go_ret
    exact ⟨rfl, (Gr.refl w).alloc _⟩

set_option maxHeartbeats 1000000 in
set_option maxRecDepth 100000 in
theorem is4_any (p4 p6 : Addr) (k : Option Bool) (hi lo : Int) (w : World) (N : Net p4 p6 w) :
    Calls Tryd.prog 56 #[.agg #[.int .u64 hi, .int .u64 lo, .pointer (zp p4 p6 k)]] w fun e w' => e = .returned (.bool (k == some false)) ∧ Gr w w' := by
  have G0 := N.g0
  have G4 := N.g4
  have G6 := N.g6
  have S2 := N.sz
  have S1 : 1 < w.heap.size := by omega
  have S0 : 0 < w.heap.size := by omega
  have e1 := nilEq
  have e2 := sameEq
  have e5 := nilEq'
  rcases k with _ | (_ | _) <;> simp only [zp] <;>
  · have e3 := (N.alloc (.cells #[.int .u64 hi, .int .u64 lo, .pointer (some p4)] 55)).eq46
    have e4 := (N.alloc (.cells #[.int .u64 hi, .int .u64 lo, .pointer (some p6)] 55)).eq64
    have T : Hid _ := Lib.hid N
    clear N
    go_enter Tryd.func56, Tryd.ntmps56
    go_wp2
    go_ret
    exact ⟨rfl, (Gr.refl w).alloc _⟩

set_option maxHeartbeats 1000000 in
set_option maxRecDepth 100000 in
theorem is6_any (p4 p6 : Addr) (k : Option Bool) (hi lo : Int) (w : World) (N : Net p4 p6 w) :
    Calls Tryd.prog 51 #[.agg #[.int .u64 hi, .int .u64 lo, .pointer (zp p4 p6 k)]] w fun e w' => e = .returned (.bool (k == some true)) ∧ Gr w w' := by
  have G0 := N.g0
  have G4 := N.g4
  have G6 := N.g6
  have S2 := N.sz
  have S1 : 1 < w.heap.size := by omega
  have S0 : 0 < w.heap.size := by omega
  have e1 := nilEq
  have e2 := sameEq
  have e5 := nilEq'
  rcases k with _ | (_ | _) <;> simp only [zp] <;>
  · have e3 := (N.alloc (.cells #[.int .u64 hi, .int .u64 lo, .pointer (some p4)] 55)).eq46
    have e4 := (N.alloc (.cells #[.int .u64 hi, .int .u64 lo, .pointer (some p6)] 55)).eq64
    have T : Hid _ := Lib.hid N
    clear N
    go_enter Tryd.func51, Tryd.ntmps51
    go_wp2
    go_ret
    exact ⟨rfl, (Gr.refl w).alloc _⟩

set_option maxHeartbeats 1000000 in
set_option maxRecDepth 100000 in
theorem hasZone_any (p4 p6 : Addr) (k : Option Bool) (hi lo : Int) (w : World) (N : Net p4 p6 w) :
    Calls Tryd.prog 75 #[.agg #[.int .u64 hi, .int .u64 lo, .pointer (zp p4 p6 k)]] w fun e w' => e = .returned (.bool false) ∧ Gr w w' := by
  have G0 := N.g0
  have G4 := N.g4
  have G6 := N.g6
  have S2 := N.sz
  have S1 : 1 < w.heap.size := by omega
  have S0 : 0 < w.heap.size := by omega
  have e1 := nilEq
  have e2 := sameEq
  have e5 := nilEq'
  rcases k with _ | (_ | _) <;> simp only [zp] <;>
  · have e3 := (N.alloc (.cells #[.int .u64 hi, .int .u64 lo, .pointer (some p4)] 55)).eq46
    have e4 := (N.alloc (.cells #[.int .u64 hi, .int .u64 lo, .pointer (some p6)] 55)).eq64
    have T : Hid _ := Lib.hid N
    clear N
    go_enter Tryd.func75, Tryd.ntmps75
    go_wp2
    go_ret
    exact ⟨rfl, (Gr.refl w).alloc _⟩

set_option maxHeartbeats 1000000 in
set_option maxRecDepth 100000 in
theorem bitLen_any (p4 p6 : Addr) (k : Option Bool) (hi lo : Int) (w : World) (N : Net p4 p6 w) :
    Calls Tryd.prog 72 #[.agg #[.int .u64 hi, .int .u64 lo, .pointer (zp p4 p6 k)]] w fun e w' => e = .returned (.int .i64 (bitLen k)) ∧ Gr w w' := by
  have G0 := N.g0
  have G4 := N.g4
  have G6 := N.g6
  have S2 := N.sz
  have S1 : 1 < w.heap.size := by omega
  have S0 : 0 < w.heap.size := by omega
  have e1 := nilEq
  have e2 := sameEq
  have e5 := nilEq'
  rcases k with _ | (_ | _) <;> simp only [zp] <;>
  · have e3 := (N.alloc (.cells #[.int .u64 hi, .int .u64 lo, .pointer (some p4)] 55)).eq46
    have e4 := (N.alloc (.cells #[.int .u64 hi, .int .u64 lo, .pointer (some p6)] 55)).eq64
    have T : Hid _ := Lib.hid N
    clear N
    go_enter Tryd.func72, Tryd.ntmps72
    go_wp2
    go_ret
    exact ⟨rfl, (Gr.refl w).alloc _⟩
end Go.Proofs.YtbejikpopealdaaDoor
