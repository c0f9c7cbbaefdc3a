/-
  netip.PrefixFrom and the small functions on Prefix and uint128, walked.
-/
import Derived.Test.YtbejikpopealdaaDoorQNetG
namespace Go.Proofs.YtbejikpopealdaaDoor
open Go.RowKit

set_option maxHeartbeats 1000000 in
set_option maxRecDepth 100000 in
theorem pfxValid (hi lo b : Int) (z : Option Addr) (w : World) (hb : (0 < b)) :
    Calls Tryd.prog 74 #[.agg #[.int .u64 hi, .int .u64 lo, .pointer z, .int .u8 b]] w fun e w' => e = .returned (.bool true) ∧ Gr w w' := by
  go_enter Tryd.func74, Tryd.ntmps74
  go_wp2
  go_ret
  exact ⟨rfl, (Gr.refl w).alloc _⟩

set_option maxHeartbeats 1000000 in
set_option maxRecDepth 100000 in
theorem pfxBits (hi lo : Int) (n : Int) (z : Option Addr) (w : World) (h0 : 0 ≤ n) (h1 : n ≤ 128) :
    Calls Tryd.prog 76 #[.agg #[.int .u64 hi, .int .u64 lo, .pointer z, .int .u8 (n + 1)]] w fun e w' => e = .returned (.int .i64 n) ∧ Gr w w' := by
  go_enter Tryd.func76, Tryd.ntmps76
  go_wp2
  go_ret
  exact ⟨ret_int (by omega), (Gr.refl w).alloc _⟩

set_option maxHeartbeats 1000000 in
set_option maxRecDepth 100000 in
theorem xor128 (a b c d : Int) (w : World) :
    Calls Tryd.prog 77 #[.agg #[.int .u64 a, .int .u64 b], .agg #[.int .u64 c, .int .u64 d]] w fun e w' => e = .returned (.agg #[.int .u64 (bits .xor .u64 a c), .int .u64 (bits .xor .u64 b d)]) ∧ Gr w w' := by
  go_enter Tryd.func77, Tryd.ntmps77
  go_wp2
  exact bodyPost_ret (v := .agg #[.int .u64 (bits .xor .u64 a c), .int .u64 (bits .xor .u64 b d)]) (by simp [results, Tryd.results77, go_sem]) rfl ⟨rfl, (((Gr.refl w).alloc _).alloc _).alloc _⟩

set_option maxHeartbeats 1000000 in
set_option maxRecDepth 100000 in
theorem and128 (a b c d : Int) (w : World) :
    Calls Tryd.prog 78 #[.agg #[.int .u64 a, .int .u64 b], .agg #[.int .u64 c, .int .u64 d]] w fun e w' => e = .returned (.agg #[.int .u64 (bits .and .u64 a c), .int .u64 (bits .and .u64 b d)]) ∧ Gr w w' := by
  go_enter Tryd.func78, Tryd.ntmps78
  go_wp2
  exact bodyPost_ret (v := .agg #[.int .u64 (bits .and .u64 a c), .int .u64 (bits .and .u64 b d)]) (by simp [results, Tryd.results78, go_sem]) rfl ⟨rfl, (((Gr.refl w).alloc _).alloc _).alloc _⟩

set_option maxHeartbeats 1000000 in
set_option maxRecDepth 100000 in
theorem isZero128 (a b : Int) (w : World) :
    Calls Tryd.prog 80 #[.agg #[.int .u64 a, .int .u64 b]] w fun e w' => e = .returned (.bool (bits .or .u64 a b == 0)) ∧ Gr w w' := by
  go_enter Tryd.func80, Tryd.ntmps80
  go_wp2
  go_ret
  exact ⟨rfl, (Gr.refl w).alloc _⟩

/-- The masks of so many bits. -/
def mhi (n : Nat) : Int := if n = 0 then 0 else if n = 7 then 18302628885633695744 else if n = 10 then 18428729675200069632 else if n = 16 then 18446462598732840960 else if n = 32 then 18446744069414584320 else 18446744073709551615
def mlo (n : Nat) : Int := if n = 128 then 18446744073709551615 else if n = 96 then 18446744069414584320 else 0

set_option maxHeartbeats 1000000 in
set_option maxRecDepth 100000 in
theorem mask6_128 (w : World) :
    Calls Tryd.prog 79 #[.int .i64 128] w fun e w' => e = .returned (.agg #[.int .u64 (mhi 128), .int .u64 (mlo 128)]) ∧ Gr w w' := by
  have x1 : bits .xor .u64 IntKind.u64.max 0 = mhi 128 := by decide
  have x2 : 18446744073709551615 = mlo 128 := by decide
  have X1 := Lib.hid x1
  have X2 := Lib.hid x2
  clear x1 x2
  go_enter Tryd.func79, Tryd.ntmps79
  go_wp2
  go_region
  all_goals
    go_wp2
    first | rw [X1.out] | skip
    first | rw [X2.out] | skip
    exact bodyPost_ret (v := .agg #[.int .u64 (mhi 128), .int .u64 (mlo 128)]) (by simp [results, Tryd.results79, go_sem]) rfl ⟨rfl, ((Gr.refl w).alloc _).drew⟩

set_option maxHeartbeats 1000000 in
set_option maxRecDepth 100000 in
theorem mask6_96 (w : World) :
    Calls Tryd.prog 79 #[.int .i64 96] w fun e w' => e = .returned (.agg #[.int .u64 (mhi 96), .int .u64 (mlo 96)]) ∧ Gr w w' := by
  have x1 : bits .xor .u64 IntKind.u64.max 0 = mhi 96 := by decide
  have x2 : IntKind.u64.wrap 79228162514264337589248983040 = mlo 96 := by decide
  have X1 := Lib.hid x1
  have X2 := Lib.hid x2
  clear x1 x2
  go_enter Tryd.func79, Tryd.ntmps79
  go_wp2
  go_region
  all_goals
    go_wp2
    first | rw [X1.out] | skip
    first | rw [X2.out] | skip
    exact bodyPost_ret (v := .agg #[.int .u64 (mhi 96), .int .u64 (mlo 96)]) (by simp [results, Tryd.results79, go_sem]) rfl ⟨rfl, ((Gr.refl w).alloc _).drew⟩

set_option maxHeartbeats 1000000 in
set_option maxRecDepth 100000 in
theorem mask6_32 (w : World) :
    Calls Tryd.prog 79 #[.int .i64 32] w fun e w' => e = .returned (.agg #[.int .u64 (mhi 32), .int .u64 (mlo 32)]) ∧ Gr w w' := by
  have x1 : bits .xor .u64 IntKind.u64.max 4294967295 = mhi 32 := by decide
  have x2 : IntKind.u64.wrap 340282366920938463444927863358058659840 = mlo 32 := by decide
  have X1 := Lib.hid x1
  have X2 := Lib.hid x2
  clear x1 x2
  go_enter Tryd.func79, Tryd.ntmps79
  go_wp2
  go_region
  all_goals
    go_wp2
    first | rw [X1.out] | skip
    first | rw [X2.out] | skip
    exact bodyPost_ret (v := .agg #[.int .u64 (mhi 32), .int .u64 (mlo 32)]) (by simp [results, Tryd.results79, go_sem]) rfl ⟨rfl, ((Gr.refl w).alloc _).drew⟩

set_option maxHeartbeats 1000000 in
set_option maxRecDepth 100000 in
theorem mask6_16 (w : World) :
    Calls Tryd.prog 79 #[.int .i64 16] w fun e w' => e = .returned (.agg #[.int .u64 (mhi 16), .int .u64 (mlo 16)]) ∧ Gr w w' := by
  have x1 : bits .xor .u64 IntKind.u64.max 281474976710655 = mhi 16 := by decide
  have x2 : IntKind.u64.wrap 340282366920938463444927863358058659840 = mlo 16 := by decide
  have X1 := Lib.hid x1
  have X2 := Lib.hid x2
  clear x1 x2
  go_enter Tryd.func79, Tryd.ntmps79
  go_wp2
  go_region
  all_goals
    go_wp2
    first | rw [X1.out] | skip
    first | rw [X2.out] | skip
    exact bodyPost_ret (v := .agg #[.int .u64 (mhi 16), .int .u64 (mlo 16)]) (by simp [results, Tryd.results79, go_sem]) rfl ⟨rfl, ((Gr.refl w).alloc _).drew⟩

set_option maxHeartbeats 1000000 in
set_option maxRecDepth 100000 in
theorem mask6_10 (w : World) :
    Calls Tryd.prog 79 #[.int .i64 10] w fun e w' => e = .returned (.agg #[.int .u64 (mhi 10), .int .u64 (mlo 10)]) ∧ Gr w w' := by
  have x1 : bits .xor .u64 IntKind.u64.max 18014398509481983 = mhi 10 := by decide
  have x2 : IntKind.u64.wrap 340282366920938463444927863358058659840 = mlo 10 := by decide
  have X1 := Lib.hid x1
  have X2 := Lib.hid x2
  clear x1 x2
  go_enter Tryd.func79, Tryd.ntmps79
  go_wp2
  go_region
  all_goals
    go_wp2
    first | rw [X1.out] | skip
    first | rw [X2.out] | skip
    exact bodyPost_ret (v := .agg #[.int .u64 (mhi 10), .int .u64 (mlo 10)]) (by simp [results, Tryd.results79, go_sem]) rfl ⟨rfl, ((Gr.refl w).alloc _).drew⟩

set_option maxHeartbeats 1000000 in
set_option maxRecDepth 100000 in
theorem mask6_7 (w : World) :
    Calls Tryd.prog 79 #[.int .i64 7] w fun e w' => e = .returned (.agg #[.int .u64 (mhi 7), .int .u64 (mlo 7)]) ∧ Gr w w' := by
  have x1 : bits .xor .u64 IntKind.u64.max 144115188075855871 = mhi 7 := by decide
  have x2 : IntKind.u64.wrap 340282366920938463444927863358058659840 = mlo 7 := by decide
  have X1 := Lib.hid x1
  have X2 := Lib.hid x2
  clear x1 x2
  go_enter Tryd.func79, Tryd.ntmps79
  go_wp2
  go_region
  all_goals
    go_wp2
    first | rw [X1.out] | skip
    first | rw [X2.out] | skip
    exact bodyPost_ret (v := .agg #[.int .u64 (mhi 7), .int .u64 (mlo 7)]) (by simp [results, Tryd.results79, go_sem]) rfl ⟨rfl, ((Gr.refl w).alloc _).drew⟩

set_option maxHeartbeats 1000000 in
set_option maxRecDepth 100000 in
theorem mask6_0 (w : World) :
    Calls Tryd.prog 79 #[.int .i64 0] w fun e w' => e = .returned (.agg #[.int .u64 (mhi 0), .int .u64 (mlo 0)]) ∧ Gr w w' := by
  have x1 : bits .xor .u64 IntKind.u64.max 18446744073709551615 = mhi 0 := by decide
  have x2 : IntKind.u64.wrap 340282366920938463444927863358058659840 = mlo 0 := by decide
  have X1 := Lib.hid x1
  have X2 := Lib.hid x2
  clear x1 x2
  go_enter Tryd.func79, Tryd.ntmps79
  go_wp2
  go_region
  all_goals
    go_wp2
    first | rw [X1.out] | skip
    first | rw [X2.out] | skip
    exact bodyPost_ret (v := .agg #[.int .u64 (mhi 0), .int .u64 (mlo 0)]) (by simp [results, Tryd.results79, go_sem]) rfl ⟨rfl, ((Gr.refl w).alloc _).drew⟩

set_option maxHeartbeats 1000000 in
set_option maxRecDepth 100000 in
theorem prefixFrom (p4 p6 : Addr) (hi lo n : Int) (w : World) (N : Net p4 p6 w) (h0 : 0 ≤ n) (h1 : n ≤ 128) :
    Calls Tryd.prog 55 #[.agg #[.int .u64 hi, .int .u64 lo, .pointer (zp p4 p6 (some true))], .int .i64 n] w fun e w' => e = .returned (.agg #[.int .u64 hi, .int .u64 lo, .pointer (zp p4 p6 (some true)), .int .u8 (n + 1)]) ∧ Gr w w' := by
  have I71 := Lib.hid (fun W g => isZero_any p4 p6 (some true) hi lo W (N.gr (w' := W) g))
  have I72 : Hid (∀ W, Gr w W → Calls Tryd.prog 72 #[.agg #[.int .u64 hi, .int .u64 lo, .pointer (zp p4 p6 (some true))]] W fun e w' => e = .returned (.int .i64 128) ∧ Gr W w') := fun W g => bitLen_any p4 p6 (some true) hi lo W (N.gr (w' := W) g)
  have I73 := Lib.hid (fun W g => withoutZone_any p4 p6 (some true) hi lo W (N.gr (w' := W) g))
  clear N
  go_enter Tryd.func55, Tryd.ntmps55
  go_wp2_with fail
  refine (I71.out _ (((Gr.refl w).alloc _).alloc _)).mono ?_
  rintro e w1 ⟨rfl, hg⟩
  have hla1 : w.heap.size < w1.heap.size := by have := hg.size; (try simp at this); omega
  have hlt1 : w.heap.size + 1 < w1.heap.size := by have := hg.size; (try simp at this); omega
  obtain ⟨hc1, hf1⟩ := hg.cells
  have HG1 : Hid (Gr w w1) := (((Gr.refl w).alloc _).alloc _).trans hg
  clear hg
  go_wp2_with fail
  refine (I72.out _ HG1.out).mono ?_
  rintro e w2 ⟨rfl, hg⟩
  have hla2 : w.heap.size < w2.heap.size := by have := hg.size; (try simp at this); omega
  have hlt2 : w.heap.size + 1 < w2.heap.size := by have := hg.size; (try simp at this); omega
  obtain ⟨hc2, hf2⟩ := hg.cells
  have HG2 : Hid (Gr w w2) := HG1.out.trans hg
  clear hg
  go_wp2_with fail
  refine (I73.out _ HG2.out).mono ?_
  rintro e w3 ⟨rfl, hg⟩
  have hla3 : w.heap.size < w3.heap.size := by have := hg.size; (try simp at this); omega
  have hlt3 : w.heap.size + 1 < w3.heap.size := by have := hg.size; (try simp at this); omega
  obtain ⟨hc3, hf3⟩ := hg.cells
  have HG3 : Hid (Gr w w3) := HG2.out.trans hg
  clear hg
  go_wp2_with fail
  exact bodyPost_ret (v := .agg #[.int .u64 hi, .int .u64 lo, .pointer (zp p4 p6 (some true)), .int .u8 (n + 1)]) (by simp [results, Tryd.results55, go_sem, hc1, hc2, hc3, hlt1, hlt2]) rfl
    ⟨rfl, (((HG3.out.setCell (by simp) _).setCell (by simp) _).setCell (by simp) _).setCell (by simp) _⟩
end Go.Proofs.YtbejikpopealdaaDoor
