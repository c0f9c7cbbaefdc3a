/-
  The stable sort of the library at elements of k cells, over a program that holds this seat's bodies: what is asked of the program; the exchange of two ranges, walked.
-/
import Derived.Test.YtbejikpopealdaaDoorQStabC
import Derived.Test.YtbejikpopealdaaDoorProg
import Derived.Shelf.SlSortCmp.KitK
import Derived.Sort.WalkB2
import Derived.Sort.WalkB12
import Derived.Deep.LoopGhost
import Derived.Lib.Hide
namespace Go.Proofs.YtbejikpopealdaaDoor
open Go.Shelf Go.RowKit Go.Lib Go.Sort

/-- What the walks of the sort ask of the program. -/
structure LaySt (P : Program) (k : Nat) : Prop where
  mixed : P.follows .mixedOrders = true
  t0 : P.underlying 0 = some (TypeDesc.tuple #[])
  a0 : ∀ w, (isAgg 0).run P w = .ok false w
  z0 : ∀ w, (Go.sizeOf 0).run P w = .ok 1 w
  v0 : ∀ w, (zeroValue 0).run P w = .ok (Value.tuple #[]) w
  t3 : P.underlying 3 = some (TypeDesc.int IntKind.i64)
  a3 : ∀ w, (isAgg 3).run P w = .ok false w
  z3 : ∀ w, (Go.sizeOf 3).run P w = .ok 1 w
  v3 : ∀ w, (zeroValue 3).run P w = .ok (Value.int IntKind.i64 0) w
  t4 : P.underlying 4 = some (TypeDesc.bool)
  a4 : ∀ w, (isAgg 4).run P w = .ok false w
  z4 : ∀ w, (Go.sizeOf 4).run P w = .ok 1 w
  v4 : ∀ w, (zeroValue 4).run P w = .ok (Value.bool false) w
  t87 : P.underlying 87 = some (TypeDesc.int IntKind.u64)
  a87 : ∀ w, (isAgg 87).run P w = .ok false w
  z87 : ∀ w, (Go.sizeOf 87).run P w = .ok 1 w
  v87 : ∀ w, (zeroValue 87).run P w = .ok (Value.int IntKind.u64 0) w
  t92 : P.underlying 92 = some (TypeDesc.slice 97)
  a92 : ∀ w, (isAgg 92).run P w = .ok false w
  z92 : ∀ w, (Go.sizeOf 92).run P w = .ok 1 w
  v92 : ∀ w, (zeroValue 92).run P w = .ok (Value.slice none 0 0) w
  t99 : P.underlying 99 = some (TypeDesc.func #[97, 97] #[3] false)
  a99 : ∀ w, (isAgg 99).run P w = .ok false w
  z99 : ∀ w, (Go.sizeOf 99).run P w = .ok 1 w
  v99 : ∀ w, (zeroValue 99).run P w = .ok (Value.nilFunc) w
  a97 : ∀ w, (isAgg 97).run P w = .ok true w
  z97 : ∀ w, (Go.sizeOf 97).run P w = .ok k w
  f60 : P.funcs[60]? = some Tryd.f60
  f83 : P.funcs[83]? = some Tryd.f83
  f94 : P.funcs[94]? = some Tryd.f94
  f95 : P.funcs[95]? = some Tryd.f95
  f104 : P.funcs[104]? = some Tryd.f104
  f109 : P.funcs[109]? = some Tryd.f109

theorem laySt : LaySt Tryd.prog 11 :=
  ⟨by kernel_rfl, Tryd.underlying0, Tryd.isAgg0, Tryd.sizeOf0, Tryd.zeroValue0, Tryd.underlying3, Tryd.isAgg3, Tryd.sizeOf3, Tryd.zeroValue3, Tryd.underlying4, Tryd.isAgg4, Tryd.sizeOf4, Tryd.zeroValue4,
    Tryd.underlying87, Tryd.isAgg87, Tryd.sizeOf87, Tryd.zeroValue87, Tryd.underlying92, Tryd.isAgg92, Tryd.sizeOf92, Tryd.zeroValue92, Tryd.underlying99, Tryd.isAgg99, Tryd.sizeOf99, Tryd.zeroValue99, Tryd.isAgg97, Tryd.sizeOf97,
    Tryd.func60, Tryd.func83, Tryd.func94, Tryd.func95, Tryd.func104, Tryd.func109⟩

variable {P : Program} {enc : Nat → List Value} {k : Nat} {w0 : World} {blk off : Nat}

set_option maxHeartbeats 4000000 in
set_option maxRecDepth 1000000 in
theorem swapRange_any (L : LaySt P k) (fv : Value) (cap p q n : Nat) (d0 d : Array Nat) (w : World)
    (R : RowK enc k w0 blk off d0) (hs : d0.size = d.size) (S : SWK enc k w0 blk off d w) (hpq : p + n ≤ q) (hq : q + n ≤ d.size) (hsz : d.size < 4611686018427387904) :
    Calls P 109 #[.slice (some ⟨blk, off, none⟩) d.size cap, .int .i64 p, .int .i64 q, .int .i64 n, fv] w fun e w' => e = .returned (.tuple #[]) ∧ ∃ d', SwR p q n n d d' ∧ SWK enc k w0 blk off d' w' := by
  have mixed := L.mixed; have t0 := L.t0; have a0 := L.a0; have z0 := L.z0; have v0 := L.v0; have t3 := L.t3; have a3 := L.a3; have z3 := L.z3; have v3 := L.v3; have t4 := L.t4; have a4 := L.a4; have z4 := L.z4; have v4 := L.v4; have t92 := L.t92; have a92 := L.a92; have z92 := L.z92; have v92 := L.v92; have t99 := L.t99; have a99 := L.a99; have z99 := L.z99; have v99 := L.v99
  have aE := L.a97
  have zE := L.z97
  have FG := L.f109
  have S0 : Aside (SWK enc k w0 blk off d w) := S
  clear S L
  go_enter FG, Tryd.ntmps109
  go_wp2
  go_loopg [10] n (fun kx s10 wr => ∃ (t : Nat) (dk : Array Nat), s10 = .int .i64 t ∧ t ≤ n ∧ n - t ≤ kx ∧ dk.size = d.size ∧ Aside (SWK enc k w0 blk off dk wr) ∧ Hid (SwR p q n t d dk))
  case atStart => exact ⟨0, d, by go_num, Nat.zero_le _, by omega, rfl, S0, SwR.start p q n d⟩
  case round =>
    clear S0
    obtain ⟨t, dk, rfl, htn, hkx, hds, S1, HR⟩ := hrel
    by_cases hlt : t < n
    · have hltz : (t : Int) < (n : Int) := by omega
      go_wp2_with fail
      have ea44 : ((p : Int) + (t : Int)).toNat = p + t := by omega
      have pa44 : (0 : Int) ≤ (p : Int) + (t : Int) := by omega
      have ba44 : (p : Int) + (t : Int) < (d.size : Int) := by omega
      have ra44 : IntKind.i64.wrap ((p : Int) + (t : Int)) = (p : Int) + (t : Int) := by rw [IntKind.wrap_i64]; omega
      have ec44 : ((q : Int) + (t : Int)).toNat = q + t := by omega
      have pc44 : (0 : Int) ≤ (q : Int) + (t : Int) := by omega
      have bc44 : (q : Int) + (t : Int) < (d.size : Int) := by omega
      have rc44 : IntKind.i64.wrap ((q : Int) + (t : Int)) = (q : Int) + (t : Int) := by rw [IntKind.wrap_i64]; omega
      have S2 : Aside (SWK enc k w0 blk off (swp dk (p + t) (q + t)) ((wr.drew.setCells blk (off + (p + t) * k) (enc dk[q + t]!)).setCells blk (off + (q + t) * k) (enc dk[p + t]!))) := S1.out.swapped R (p + t) (q + t) (by omega) (by omega)
      have l44a := S1.out.ld1 R (by omega) P (p + t) (by omega)
      have l44b := S1.out.ld1 R (by omega) P (q + t) (by omega)
      have s44a := S1.out.st1 R (by omega) P (p + t) (by omega) dk[q + t]!
      have s44b := S1.out.st2 R (by omega) P (p + t) (q + t) (by omega) (by omega) dk[q + t]! dk[p + t]!
      have n44a : (enc dk[p + t]!).length = k := R.hk _
      have n44b : (enc dk[q + t]!).length = k := R.hk _
      generalize enc dk[p + t]! = cI44 at S2 l44a s44b n44a
      generalize enc dk[q + t]! = cJ44 at S2 l44b s44a s44b n44b
      clear S1
      go_wp2_with fail
      go_big_region_o
      clear l44a l44b s44a s44b
      generalize (wr.drew.setCells blk (off + (p + t) * k) cJ44).setCells blk (off + (q + t) * k) cI44 = w2 at S2 ⊢
      go_wp2
      go_roundg (n - (t + 1))
      case measure => omega
      case rel => exact ⟨t + 1, swp dk (p + t) (q + t), by go_num, hlt, Nat.le_refl _, by rw [size_swp]; exact hds, S2, HR.out.step hlt hpq hq⟩
    · have hltz : ¬ (t : Int) < (n : Int) := by omega
      obtain rfl : t = n := by omega
      go_wp2
      go_end0
      exact ⟨rfl, dk, HR.out, S1.out⟩
end Go.Proofs.YtbejikpopealdaaDoor
/-
  The stable sort of the library: the rotation of two neighbouring ranges, walked.
-/
namespace Go.Proofs.YtbejikpopealdaaDoor
open Go.Shelf Go.RowKit Go.Lib Go.Sort
variable {P : Program} {enc : Nat → List Value} {k : Nat} {w0 : World} {blk off : Nat}

set_option maxHeartbeats 4000000 in
set_option maxRecDepth 1000000 in
theorem rotate_any (L : LaySt P k) (fv : Value) (cap a m b : Nat) (d0 d : Array Nat) (w : World)
    (R : RowK enc k w0 blk off d0) (hs : d0.size = d.size) (S : SWK enc k w0 blk off d w) (h1 : a < m) (h2 : m < b) (hb : b ≤ d.size) (hsz : d.size < 4611686018427387904) :
    Calls P 104 #[.slice (some ⟨blk, off, none⟩) d.size cap, .int .i64 a, .int .i64 m, .int .i64 b, fv] w fun e w' => e = .returned (.tuple #[]) ∧ ∃ d', Rot a m b d d' ∧ SWK enc k w0 blk off d' w' := by
  have mixed := L.mixed; have t0 := L.t0; have a0 := L.a0; have z0 := L.z0; have v0 := L.v0; have t3 := L.t3; have a3 := L.a3; have z3 := L.z3; have v3 := L.v3; have t4 := L.t4; have a4 := L.a4; have z4 := L.z4; have v4 := L.v4; have t92 := L.t92; have a92 := L.a92; have z92 := L.z92; have v92 := L.v92; have t99 := L.t99; have a99 := L.a99; have z99 := L.z99; have v99 := L.v99
  have FG := L.f104
  have e109 : ∀ args w, (callFunc 109 args).run P w = .ok (.enter 109 args) w := enters_of L.f109 rfl rfl
  have S0 : Aside (SWK enc k w0 blk off d w) := S
  have LL := Lib.hid L
  have ecast1 : ((m - a : Nat) : Int) = (m : Int) - (a : Int) := by omega
  have ecast2 : ((b - m : Nat) : Int) = (b : Int) - (m : Int) := by omega
  have E1 := Lib.hid ecast1
  have E2 := Lib.hid ecast2
  have RS : Hid (RotI a m b (m - a) (b - m) d d) := RotI.start d h1 h2
  clear S L ecast1 ecast2
  go_enter FG, Tryd.ntmps104
  go_wp2
  go_loopg [10, 11] (b - a) (fun kx s10 s11 wr => ∃ (i j : Nat) (dk : Array Nat), s10 = .int .i64 i ∧ s11 = .int .i64 j ∧ 1 ≤ i ∧ 1 ≤ j ∧ a + i ≤ m ∧ m + j ≤ b ∧ i + j ≤ kx ∧ dk.size = d.size ∧ Aside (SWK enc k w0 blk off dk wr) ∧ Hid (RotI a m b i j d dk))
  case atStart => exact ⟨m - a, b - m, d, by rw [E1.out], by rw [E2.out], by omega, by omega, by omega, by omega, by omega, rfl, S0, RS⟩
  case round =>
    clear S0 RS E1 E2
    obtain ⟨i, j, dk, rfl, rfl, i1, j1, hai, hmj, hkx, hds, S1, HR⟩ := hrel
    have hds' := Lib.hid hds
    by_cases hij : i = j
    · obtain rfl := hij
      have hcall := swapRange_any LL.out fv cap (m - i) m i d0 dk wr R (by omega) S1.out (by omega) (by omega) (by omega)
      have ec : ((m - i : Nat) : Int) = (m : Int) - (i : Int) := by omega
      rw [ec, hds] at hcall
      have HC := Lib.hid hcall
      clear ec hcall hds S1
      go_wp2_with (go_at_fn 109; refine HC.out.mono ?_; rintro e w1 ⟨rfl, dl, HS, S3⟩)
      go_end0
      exact ⟨rfl, dl, HR.out.done hb HS, S3⟩
    · have nij : ((i : Int) != (j : Int)) = true := by rw [bne_iff_ne]; omega
      by_cases hlt : j < i
      · have hltz : (j : Int) < (i : Int) := by omega
        have hcall := swapRange_any LL.out fv cap (m - i) m j d0 dk wr R (by omega) S1.out (by omega) (by omega) (by omega)
        have ec : ((m - i : Nat) : Int) = (m : Int) - (i : Int) := by omega
        rw [ec, hds] at hcall
        have HC := Lib.hid hcall
        clear ec hcall hds S1 hij
        go_wp2_with (go_at_fn 109; refine HC.out.mono ?_; rintro e w1 ⟨rfl, dl, HS, S3⟩; have HS1 := Lib.hid HS; clear HS; have S4 : Aside _ := S3; clear S3)
        go_roundg (i + j - 1)
        case measure => omega
        case rel =>
          have e2 : ((i - j : Nat) : Int) = (i : Int) - (j : Int) := by omega
          exact ⟨i - j, j, dl, by rw [e2], rfl, by omega, j1, by omega, hmj, by omega, by rw [HS1.out.1.1]; exact hds'.out, S4, HR.out.left hb hlt HS1.out⟩
      · have hltz : ¬ (j : Int) < (i : Int) := by omega
        have hcall := swapRange_any LL.out fv cap (m - i) (m + j - i) i d0 dk wr R (by omega) S1.out (by omega) (by omega) (by omega)
        have ec : ((m - i : Nat) : Int) = (m : Int) - (i : Int) := by omega
        have ec2 : ((m + j - i : Nat) : Int) = (m : Int) + (j : Int) - (i : Int) := by omega
        rw [ec, ec2, hds] at hcall
        have HC := Lib.hid hcall
        clear ec ec2 hcall hds S1
        go_wp2_with (go_at_fn 109; refine HC.out.mono ?_; rintro e w1 ⟨rfl, dl, HS, S3⟩; have HS1 := Lib.hid HS; clear HS; have S4 : Aside _ := S3; clear S3)
        go_roundg (i + j - 1)
        case measure => omega
        case rel =>
          have e2 : ((j - i : Nat) : Int) = (j : Int) - (i : Int) := by omega
          exact ⟨i, j - i, dl, rfl, by rw [e2], i1, by omega, hai, by omega, by omega, by rw [HS1.out.1.1]; exact hds'.out, S4, HR.out.right hb (by omega) HS1.out⟩
end Go.Proofs.YtbejikpopealdaaDoor
