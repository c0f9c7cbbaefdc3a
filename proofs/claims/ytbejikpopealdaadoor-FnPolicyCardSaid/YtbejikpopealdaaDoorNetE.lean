/-
  (IP).To4 and isZeros of the package: which sixteen bytes are a mapped address of IPv4.
-/
import Derived.Test.YtbejikpopealdaaDoorNetD
namespace Go.Proofs.YtbejikpopealdaaDoor
open Go.RowKit

/-- Only zeros. -/
def allZ (zs : List Int) : Bool := zs.all (· == 0)

theorem allZ_snoc (zs : List Int) (k : Nat) (h : k < zs.length) : allZ (zs.take (k + 1)) = (allZ (zs.take k) && (zs.getD k 0 == 0)) := by
  unfold allZ
  rw [List.take_succ_eq_append_getElem h, List.all_append]
  simp [h]
theorem allZ_false (zs : List Int) (k : Nat) (h : k < zs.length) (h0 : (zs.getD k 0 == 0) = false) : allZ zs = false := by
  unfold allZ
  rw [List.all_eq_false]
  refine ⟨zs[k], List.getElem_mem h, ?_⟩
  rw [List.getD_eq_getElem?_getD, List.getElem?_eq_getElem h] at h0
  simpa using h0

set_option maxHeartbeats 1000000 in
theorem isZeros_any (b off c : Nat) (zs : List Int) (w : World) (hl : zs.length ≤ 1000)
    (hc : ∀ i, i < zs.length → w.cell? ⟨b, off + i, none⟩ = some (.int .u8 (zs.getD i 0))) :
    Calls Tryd.prog 65 #[.slice (some ⟨b, off, none⟩) zs.length c] w fun e w' => e = .returned (.bool (allZ zs)) ∧ w = w' := by
  have HC := Lib.hid hc
  clear hc
  obtain ⟨n, hn⟩ : ∃ n, n = zs.length := ⟨_, rfl⟩
  rw [← hn] at hl ⊢
  have HN := Lib.hid hn
  clear hn
  go_enter Tryd.func65, Tryd.ntmps65
  go_wp2
  go_loop [3] (fun i => ∃ k : Nat, k ≤ n ∧ i = .int .i64 k ∧ Hid (allZ (zs.take k) = true)) (fun i => n - (intOf i).toNat)
  case atStart => exact ⟨0, Nat.zero_le _, rfl, rfl⟩
  case round =>
    obtain ⟨k, hk, rfl, HZ⟩ := hrel
    by_cases hlt : k < n
    · have hcell := HC.out k (by rw [← HN.out]; exact hlt)
      have hkz : k < zs.length := by rw [← HN.out]; exact hlt
      obtain ⟨z, hzz⟩ : ∃ z, z = zs.getD k 0 := ⟨_, rfl⟩
      rw [← hzz] at hcell
      cases hz : (z == 0) with
      | true =>
        have hz' : (z != 0) = false := by rw [bne, hz]; rfl
        have HZ2 : Hid (allZ (zs.take (k + 1)) = true) := by show _ = _; rw [allZ_snoc zs k hkz, HZ.out, ← hzz, hz]; rfl
        clear hz hzz
        go_wp2
        go_round
        case rel => exact ⟨k + 1, by omega, by go_num, HZ2⟩
        case measure => simp [intOf]; omega
      | false =>
        have hz' : (z != 0) = true := by rw [bne, hz]; rfl
        have HF := Lib.hid (allZ_false zs k hkz (by rw [← hzz]; exact hz))
        clear hz hzz
        go_wp2
        go_ret
        exact ⟨by rw [HF.out]; rfl, rfl⟩
    · have HF : Hid (allZ zs = true) := by
        have := HZ.out
        rwa [List.take_of_length_le (by rw [← HN.out]; omega)] at this
      go_wp2
      go_ret
      exact ⟨by rw [HF.out]; rfl, rfl⟩

/-- Sixteen bytes that spell a mapped address of IPv4. -/
def mapd (zs : List Int) : Bool := allZ (zs.take 10) && zs.getD 10 0 == 255 && zs.getD 11 0 == 255

/-- What To4 gives back. -/
def to4v (a : Option Addr) (zs : List Int) (c : Nat) : Value :=
  if zs.length = 4 then .slice a 4 c else if zs.length = 16 ∧ mapd zs = true then .slice (a.map fun x => ⟨x.block, x.off + 12, none⟩) 4 (c - 12) else .slice none 0 0

set_option maxHeartbeats 1000000 in
theorem to4_four (a : Option Addr) (c : Nat) (w : World) :
    Calls Tryd.prog 47 #[.slice a 4 c] w fun e w' => e = .returned (.slice a 4 c) ∧ w = w' := by
  go_enter Tryd.func47, Tryd.ntmps47
  go_wp2
  go_ret
  exact ⟨rfl, rfl⟩

set_option maxHeartbeats 1000000 in
theorem to4_else (a : Option Addr) (n c : Nat) (h4 : n ≠ 4) (h16 : n ≠ 16) (w : World) :
    Calls Tryd.prog 47 #[.slice a n c] w fun e w' => e = .returned (.slice none 0 0) ∧ w = w' := by
  have k4 : ((n : Int) == 4) = false := by rw [beq_eq_false_iff_ne]; omega
  have k16 : ((n : Int) == 16) = false := by rw [beq_eq_false_iff_ne]; omega
  clear h4 h16
  go_enter Tryd.func47, Tryd.ntmps47
  go_wp2
  go_ret
  exact ⟨rfl, rfl⟩

theorem take10 {w : World} {b off : Nat} {zs : List Int} (h : zs.length = 16) (hc : ∀ i, i < zs.length → w.cell? ⟨b, off + i, none⟩ = some (.int .u8 (zs.getD i 0))) :
    (zs.take 10).length = 10 ∧ ∀ i, i < (zs.take 10).length → w.cell? ⟨b, off + i, none⟩ = some (.int .u8 ((zs.take 10).getD i 0)) := by
  have hl : (zs.take 10).length = 10 := by simp [h]
  refine ⟨hl, fun i hi => ?_⟩
  rw [hl] at hi
  rw [hc i (by omega)]
  simp [hi]

set_option maxHeartbeats 1000000 in
theorem to4_16 (b off c : Nat) (hcap : 16 ≤ c) (zs : List Int) (h : zs.length = 16) (w : World)
    (hc : ∀ i, i < zs.length → w.cell? ⟨b, off + i, none⟩ = some (.int .u8 (zs.getD i 0))) :
    Calls Tryd.prog 47 #[.slice (some ⟨b, off, none⟩) 16 c] w fun e w' => e = .returned (if mapd zs = true then .slice (some ⟨b, off + 12, none⟩) 4 (c - 12) else .slice none 0 0) ∧ w = w' := by
  obtain ⟨h10, hc10⟩ := take10 h hc
  have hz := isZeros_any b off c (zs.take 10) w (by omega) hc10
  rw [h10] at hz
  have HZ := Lib.hid hz
  have ca := hc 10 (by omega)
  have cb := hc 11 (by omega)
  unfold mapd
  obtain ⟨x, hx⟩ : ∃ x, x = zs.getD 10 0 := ⟨_, rfl⟩
  obtain ⟨y, hy⟩ : ∃ y, y = zs.getD 11 0 := ⟨_, rfl⟩
  rw [← hx] at ca ⊢
  rw [← hy] at cb ⊢
  clear hx hy hz hc hc10 h10 h
  generalize allZ (zs.take 10) = z at *
  cases z <;> cases hx : (x == 255) <;> cases hy : (y == 255) <;>
  · go_enter Tryd.func47, Tryd.ntmps47
    go_wp2_with (go_at_call 65; refine HZ.out.mono ?_; rintro e w' ⟨rfl, rfl⟩)
    go_ret
    exact ⟨by simp, rfl⟩
end Go.Proofs.YtbejikpopealdaaDoor
