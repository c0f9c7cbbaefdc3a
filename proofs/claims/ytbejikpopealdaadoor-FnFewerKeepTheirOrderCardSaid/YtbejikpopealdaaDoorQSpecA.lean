/-
  spec.Common, spec.starts and spec.IsFour of the reference, walked.
-/
import Derived.Test.YtbejikpopealdaaDoorQNetG
import Derived.Test.YtbejikpopealdaaDoorQBitsA
namespace Go.Proofs.YtbejikpopealdaaDoor
open Go.RowKit

set_option maxHeartbeats 1000000 in
set_option maxRecDepth 100000 in
theorem specCommon (b off c b' off' c' n n' : Nat) (xs ys : List Int) (w : World) (hn : 8 ≤ n) (hn' : 8 ≤ n') 
    (hbx : ∀ i, Byt (xs.getD i 0)) (hby : ∀ i, Byt (ys.getD i 0)) (hc : ∀ i, i < 8 → w.cell? ⟨b, off + i, none⟩ = some (.int .u8 (xs.getD i 0))) (hc' : ∀ i, i < 8 → w.cell? ⟨b', off' + i, none⟩ = some (.int .u8 (ys.getD i 0))) :
    Calls Tryd.prog 14 #[.slice (some ⟨b, off, none⟩) n c, .slice (some ⟨b', off', none⟩) n' c'] w fun e w' => e = .returned (.int .i64 (cplN xs ys)) ∧ ∃ q, w' = w.drewN q := by
  have HC := Lib.hid hc
  have HC' := Lib.hid hc'
  have BX := Lib.hid hbx
  have BY := Lib.hid hby
  clear hc hc' hbx hby
  go_enter Tryd.func14, Tryd.ntmps14
  go_wp2
  go_loopw [5] (fun i wr => ∃ k q : Nat, k ≤ 64 ∧ i = .int .i64 k ∧ wr = w.drewN q ∧ Hid (∀ i, i < k → bitAt xs i = bitAt ys i)) (fun i _ => 64 - (intOf i).toNat)
  case atStart => exact ⟨0, 0, Nat.zero_le _, rfl, rfl, fun i hi => by omega⟩
  case round =>
    obtain ⟨k, q, hk, rfl, rfl, HB⟩ := hrel
    by_cases hlt : k < 64
    · have c1 := HC.out (k / 8) (by omega)
      have c2 := HC'.out (k / 8) (by omega)
      obtain ⟨x, hx⟩ : ∃ x, x = xs.getD (k / 8) 0 := ⟨_, rfl⟩
      obtain ⟨y, hy⟩ : ∃ y, y = ys.getD (k / 8) 0 := ⟨_, rfl⟩
      rw [← hx] at c1
      rw [← hy] at c2
      have HX := Lib.hid hx
      have HY := Lib.hid hy
      clear hx hy
      have i1 : (k : Int) / 8 < (n : Int) := by omega
      have i2 : (k : Int) / 8 < (n' : Int) := by omega
      have i3 : 0 ≤ (k : Int) / 8 := by omega
      have s1 : 0 ≤ 7 - (k : Int) % 8 := by omega
      have s2 : 7 - (k : Int) % 8 < 8 := by omega
      have hltz : (k : Int) < 64 := by omega
      have ht := bitTest x y (by rw [HX.out]; exact BX.out _) (by rw [HY.out]; exact BY.out _) (7 - k % 8)
      by_cases he : bitAt xs k = bitAt ys k
      · have hb : (bits .and .u8 (bits .xor .u8 x y / 2 ^ (7 - k % 8)) 1 == 0) = true := by
          rw [ht, HX.out, HY.out]; exact decide_eq_true he
        have HB' : Hid (∀ i, i < k + 1 → bitAt xs i = bitAt ys i) := fun i hi => by
          rcases Nat.lt_or_ge i k with h | h
          · exact HB.out i h
          · have : i = k := by omega
            subst this; exact he
        clear ht he
        go_wp2_with fail
        go_quiet (fail)
        go_wp2
        go_roundw
        case rel => exact ⟨k + 1, _, by omega, by go_num, rfl, HB'⟩
        case measure => simp [intOf]; omega
      · have hb : (bits .and .u8 (bits .xor .u8 x y / 2 ^ (7 - k % 8)) 1 == 0) = false := by
          rw [ht, HX.out, HY.out]; exact decide_eq_false he
        have HF := Lib.hid (IsCpl.eq ⟨hk, HB.out, fun _ => he⟩)
        clear ht he
        go_wp2_with fail
        go_quiet (fail)
        go_wp2
        go_ret
        exact ⟨by rw [← HF.out]; rfl, _, World.drewN_drewN _ _ _⟩
    · have hltz : decide ((k : Int) < 64) = false := decide_eq_false (by omega)
      have hk64 : k = 64 := by omega
      have HF := Lib.hid (IsCpl.eq ⟨hk, HB.out, fun h => absurd h hlt⟩)
      clear hk64
      go_wp2_with fail
      go_quiet (fail)
      go_wp2
      go_ret
      exact ⟨by rw [← HF.out]; rfl, _, World.drewN_drewN _ _ _⟩

/-- The first n bits are alike. -/
def startsB (xs ps : List Int) (n : Nat) : Bool := decide (∀ i, i < n → bitAt xs i = bitAt ps i)

set_option maxHeartbeats 1000000 in
set_option maxRecDepth 100000 in
theorem starts_any (b off c b' off' c' l l' m : Nat) (xs ys : List Int) (w : World) (hm : m ≤ 128) (hn : m ≤ 8 * l) (hn' : m ≤ 8 * l')
    (hbx : ∀ i, Byt (xs.getD i 0)) (hby : ∀ i, Byt (ys.getD i 0)) (hc : ∀ i, i < l → w.cell? ⟨b, off + i, none⟩ = some (.int .u8 (xs.getD i 0))) (hc' : ∀ i, i < l' → w.cell? ⟨b', off' + i, none⟩ = some (.int .u8 (ys.getD i 0))) :
    Calls Tryd.prog 30 #[.slice (some ⟨b, off, none⟩) l c, .slice (some ⟨b', off', none⟩) l' c', .int .i64 m] w fun e w' => e = .returned (.bool (startsB xs ys m)) ∧ ∃ q, w' = w.drewN q := by
  have HC := Lib.hid hc
  have HC' := Lib.hid hc'
  have BX := Lib.hid hbx
  have BY := Lib.hid hby
  clear hc hc' hbx hby
  go_enter Tryd.func30, Tryd.ntmps30
  go_wp2
  go_loopw [7, 9] (fun _ i wr => ∃ k q : Nat, k ≤ m ∧ i = .int .i64 k ∧ wr = w.drewN q ∧ Hid (∀ i, i < k → bitAt xs i = bitAt ys i)) (fun _ i _ => m - (intOf i).toNat)
  case atStart => exact ⟨0, 0, Nat.zero_le _, rfl, rfl, fun i hi => by omega⟩
  case round =>
    obtain ⟨k, q, hk, rfl, rfl, HB⟩ := hrel
    by_cases hlt : k < m
    · have c1 := HC.out (k / 8) (by omega)
      have c2 := HC'.out (k / 8) (by omega)
      obtain ⟨x, hx⟩ : ∃ x, x = xs.getD (k / 8) 0 := ⟨_, rfl⟩
      obtain ⟨y, hy⟩ : ∃ y, y = ys.getD (k / 8) 0 := ⟨_, rfl⟩
      rw [← hx] at c1
      rw [← hy] at c2
      have HX := Lib.hid hx
      have HY := Lib.hid hy
      clear hx hy
      have i1 : (k : Int) / 8 < (l : Int) := by omega
      have i2 : (k : Int) / 8 < (l' : Int) := by omega
      have i3 : 0 ≤ (k : Int) / 8 := by omega
      have s1 : 0 ≤ 7 - (k : Int) % 8 := by omega
      have s2 : 7 - (k : Int) % 8 < 8 := by omega
      have hltz : (k : Int) < m := by omega
      have ht := bitTest x y (by rw [HX.out]; exact BX.out _) (by rw [HY.out]; exact BY.out _) (7 - k % 8)
      by_cases he : bitAt xs k = bitAt ys k
      · have hb : (bits .and .u8 (bits .xor .u8 x y / 2 ^ (7 - k % 8)) 1 != 0) = false := by
          rw [bne, ht, HX.out, HY.out]; simp only [Bool.not_eq_false', decide_eq_true_eq]; exact he
        have HB' : Hid (∀ i, i < k + 1 → bitAt xs i = bitAt ys i) := fun i hi => by
          rcases Nat.lt_or_ge i k with h | h
          · exact HB.out i h
          · have : i = k := by omega
            subst this; exact he
        clear ht he
        go_wp2_with fail
        go_quiet (fail)
        go_wp2
        go_roundw
        case rel => exact ⟨k + 1, _, by omega, by go_num, rfl, HB'⟩
        case measure => simp [intOf]; omega
      · have hb : (bits .and .u8 (bits .xor .u8 x y / 2 ^ (7 - k % 8)) 1 != 0) = true := by
          rw [bne, ht, HX.out, HY.out]; simp only [Bool.not_eq_true', decide_eq_false_iff_not]; exact he
        have HF : Hid (startsB xs ys m = false) := decide_eq_false (fun h => he (h k hlt))
        clear ht he
        go_wp2_with fail
        go_quiet (fail)
        go_wp2
        go_ret
        exact ⟨by rw [HF.out]; rfl, _, World.drewN_drewN _ _ _⟩
    · have hkm : m ≤ k := by omega
      have HF : Hid (startsB xs ys m = true) := decide_eq_true (fun i hi => HB.out i (by omega))
      go_wp2
      go_ret
      exact ⟨by rw [HF.out]; rfl, _, rfl⟩

/-- The bytes of the prefix of mapped addresses. -/
def four16 : List Int := [0, 0, 0, 0, 0, 0, 0, 0, 0, 0, 255, 255, 0, 0, 0, 0]
theorem four16_byt : ∀ i, Byt (four16.getD i 0) := by
  intro i
  rcases Nat.lt_or_ge i 16 with h | h
  · have h2 : ∀ j : Fin 16, 0 ≤ four16.getD j.1 0 ∧ four16.getD j.1 0 < 256 := by decide
    exact h2 ⟨i, h⟩
  · have h2 : four16.getD i 0 = 0 := by
      rw [List.getD_eq_getElem?_getD, List.getElem?_eq_none (by simpa [four16] using h)]; rfl
    rw [h2]; exact ⟨by omega, by omega⟩

set_option maxHeartbeats 1000000 in
set_option maxRecDepth 100000 in
theorem isFour_any (b off c : Nat) (xs : List Int) (w : World) (hbk : b < w.heap.size) 
    (hbx : ∀ i, Byt (xs.getD i 0)) (hc : ∀ i, i < 16 → w.cell? ⟨b, off + i, none⟩ = some (.int .u8 (xs.getD i 0))) :
    Calls Tryd.prog 27 #[.slice (some ⟨b, off, none⟩) 16 c] w fun e w' => e = .returned (.bool (startsB xs four16 96)) ∧ Gr w w' := by
  have HC := Lib.hid hc
  have BX := Lib.hid hbx
  clear hc hbx
  go_enter Tryd.func27, Tryd.ntmps27
  go_wp2_with fail
  have n0 : ∀ i, i < 16 → (w.alloc (.cells #[.int .u8 0, .int .u8 0, .int .u8 0, .int .u8 0, .int .u8 0, .int .u8 0, .int .u8 0, .int .u8 0, .int .u8 0, .int .u8 0, .int .u8 255, .int .u8 255, .int .u8 0, .int .u8 0, .int .u8 0, .int .u8 0] 5)).cell? ⟨w.heap.size, 0 + i, none⟩ = some (.int .u8 (four16.getD i 0)) := by
    intro i hi
    match i, hi with
    | 0, _ => simp [four16] | 1, _ => simp [four16] | 2, _ => simp [four16] | 3, _ => simp [four16] | 4, _ => simp [four16] | 5, _ => simp [four16] | 6, _ => simp [four16] | 7, _ => simp [four16] | 8, _ => simp [four16] | 9, _ => simp [four16] | 10, _ => simp [four16] | 11, _ => simp [four16] | 12, _ => simp [four16] | 13, _ => simp [four16] | 14, _ => simp [four16] | 15, _ => simp [four16]
    | n + 16, h => omega
  refine (starts_any b off c w.heap.size 0 16 16 16 96 xs four16 _ (by omega) (by omega) (by omega) BX.out four16_byt ?_ n0).mono ?_
  · intro i hi
    exact ((Gr.refl w).alloc _).cell (p := ⟨b, off + i, none⟩) hbk (HC.out i hi)
  rintro e w' ⟨rfl, q, rfl⟩
  go_wp2
  go_ret
  exact ⟨rfl, ((Gr.refl w).alloc _).drewN q⟩
end Go.Proofs.YtbejikpopealdaaDoor
