/-
  spec.Table's own function, walked: a row of bytes filled with zeros to sixteen.
-/
import Derived.Test.YtbejikpopealdaaDoorQSpecC
import Derived.Lib.AppendZerosOnto
namespace Go.Proofs.YtbejikpopealdaaDoor
open Go.RowKit

/-- The row filled to sixteen bytes. -/
def padL (xs : List Int) : List Int := xs ++ List.replicate (16 - xs.length) 0

theorem padL_byt {xs : List Int} (h : ∀ z ∈ xs, Byt z) : ∀ z ∈ padL xs, Byt z := by
  intro z hz
  unfold padL at hz
  rcases List.mem_append.1 hz with hz | hz
  · exact h z hz
  · rw [(List.mem_replicate.1 hz).2]; unfold Byt; omega
theorem padL_len {xs : List Int} (h : xs.length ≤ 16) : (padL xs).length = 16 := by unfold padL; rw [List.length_append, List.length_replicate]; omega

/-- What the function leaves. -/
def PadEnd (xs : List Int) (w : World) (e : Ending) (w' : World) : Prop :=
  ∃ a c, e = .returned (.slice a 16 c) ∧ 16 ≤ c ∧ HoldsB w' a (padL xs) ∧ Gr w w'

theorem zero_at (n i : Nat) (h : i < n) : (Builtin.zeroCells #[Value.int .u8 0] n)[i]? = some (Value.int .u8 0) := by
  unfold Builtin.zeroCells
  rw [Array.getElem?_map, Array.getElem?_range, if_pos (by simpa using h)]
  simp [Nat.mod_one]

theorem pad_cell (xs : List Int) (m i : Nat) (hl : xs.length ≤ 16) (hi : i < 16) : (((xs.map (Value.int .u8)).toArray ++ Builtin.zeroCells #[Value.int .u8 0] (16 - xs.length)) ++ Builtin.zeroCells #[Value.int .u8 0] m)[i]? = some (Value.int .u8 ((padL xs).getD i 0)) := by
  have hz := size_zeroCells #[Value.int .u8 0] (16 - xs.length)
  have hs : ((xs.map (Value.int .u8)).toArray ++ Builtin.zeroCells #[Value.int .u8 0] (16 - xs.length)).size = 16 := by
    rw [Array.size_append, hz]
    simp
    omega
  rw [Array.getElem?_append_left (by rw [hs]; exact hi)]
  unfold padL
  by_cases h : i < xs.length
  · rw [Array.getElem?_append_left (by simpa using h)]
    simp [List.getD_eq_getElem?_getD, List.getElem?_append_left h, h]
  · rw [Array.getElem?_append_right (by simpa using h), zero_at _ _ (by simp; omega)]
    rw [List.getD_eq_getElem?_getD, List.getElem?_append_right (by omega), List.getElem?_replicate]
    split <;> rfl

theorem pad_holds (xs : List Int) (w : World) (m : Nat) (e : TypeId) (hl : xs.length ≤ 16) (hx : ∀ z ∈ xs, Byt z) (cs : Array Value) (hcs : cs = ((xs.map (Value.int .u8)).toArray ++ Builtin.zeroCells #[Value.int .u8 0] (16 - xs.length)) ++ Builtin.zeroCells #[Value.int .u8 0] m) :
    HoldsB (w.drew.alloc (.cells cs e)) (some ⟨w.heap.size, 0, none⟩) (padL xs) := by
  subst hcs
  refine ⟨padL_byt hx, Or.inr ⟨_, _, rfl, by simp [go_sem], fun i hi => ?_⟩⟩
  rw [padL_len hl] at hi
  rw [Nat.zero_add]
  exact (World.cell?_alloc_new w.drew _ _ i).trans (pad_cell xs m i hl hi)

set_option maxHeartbeats 1000000 in
set_option maxRecDepth 100000 in
theorem pad_any (a : Option Addr) (xs : List Int) (n : Nat) (hn : xs.length = n) (h0 : 0 < n) (h1 : n < 16) (w : World) (h : HoldsB w a xs) :
    Calls Tryd.prog 41 #[.slice a n n] w (PadEnd xs w) := by
  obtain ⟨i0, hi, hz0, hz1, hz2⟩ := info_parts Tryd.info5
  rcases h.2 with rfl | ⟨b, off, rfl, hbk, hcs⟩
  · simp at hn; omega
  have hold := run_firstCells_some (P := Tryd.prog) (w := w.drew) 1 n ⟨b, off, none⟩ n n (xs.map (Value.int .u8)) (by simp [hn]) (fun j v hv => (h.gr (Gr.refl w).drew).news j v hv)
  have RUN := Lib.hid (Lib.run_append_grow_zeros (P := Tryd.prog) w 22 3 22 5 i0 (.int .u8 0) .i64 .i64 Tryd.underlying22 rfl hi hz0 (some ⟨b, off, none⟩) n n (xs.map (Value.int .u8)) (by rw [hz1]; exact hold) (16 - n) (by omega) (by omega) (by omega) (by omega) (by rw [hz2]; omega) (by rw [hz2]; exact growslice_fits (by omega) (by omega)))
  have HP := Lib.hid (fun e cs hcs => pad_holds xs w (grownCap w (n + (16 - n)) n 5 - (n + (16 - n))) e (by omega) h.1 cs hcs)
  have e16 : n + (16 - n) = 16 := by omega
  rw [e16] at RUN HP
  have hge := Lib.hid (grownCap_ge w 16 n 5)
  have w16 : IntKind.i64.wrap (16 - (n : Int)) = ((16 - n : Nat) : Int) := by rw [IntKind.wrap_i64]; omega
  have hn' := Lib.hid hn
  clear hold hcs h hbk hn
  go_enter Tryd.func41, Tryd.ntmps41
  go_wp2_with (at_builtin; (try rw [w16]); refine Lib.wpList_append_run _ rfl _ _ _ _ rfl _ _ rfl rfl _ _ RUN.out ?_)
  go_ret
  refine ⟨_, _, rfl, hge.out, HP.out _ _ ?_, (Gr.refl w).drew.alloc _⟩
  rw [hn'.out]
  simp only [Array.append_assoc]

set_option maxHeartbeats 1000000 in
set_option maxRecDepth 100000 in
theorem pad_nil (w : World) : Calls Tryd.prog 41 #[.slice none 0 0] w (PadEnd [] w) := by
  obtain ⟨i0, hi, hz0, hz1, hz2⟩ := info_parts Tryd.info5
  have RUN := Lib.hid (Lib.run_append_nil_zeros (P := Tryd.prog) w 22 3 22 5 i0 (.int .u8 0) .i64 .i64 Tryd.underlying22 rfl hi hz0 16 (by omega) (by omega) (by omega) (by rw [hz2]; omega))
  have HP := Lib.hid (fun e cs hcs => pad_holds [] w (grownCap w 16 0 5 - 16) e (by simp) (by simp) cs hcs)
  have hge := Lib.hid (grownCap_ge w 16 0 5)
  go_enter Tryd.func41, Tryd.ntmps41
  go_wp2_with (at_builtin; refine Lib.wpList_append_run _ rfl _ _ _ _ rfl _ _ rfl rfl _ _ RUN.out ?_)
  go_ret
  refine ⟨_, _, rfl, hge.out, HP.out _ _ ?_, (Gr.refl w).drew.alloc _⟩
  simp

theorem run_append_no_zeros {P : Program} (w : World) (t tn ty e : TypeId) (i : TypeInfo) (k kn : IntKind) (ht : P.underlying t = some (.slice e)) (htn : P.underlying tn = some (.int kn)) (hi : P.info? e = some i) (a : Addr) (n c : Nat) (hc : n ≤ c) :
    (Builtin.append_ #[t, tn] ty #[.slice (some a) n c, .int k 0]).run P w = .ok (.slice (some a) n c) w := by
  have hw : IntKind.i64.wrap 0 = 0 := by decide
  simp [Builtin.append_, run_underlying ht, run_underlying htn, sizeOf, typeInfo, hi, asInt, asIntOf, hw, hc, storeCells]

set_option maxHeartbeats 1000000 in
set_option maxRecDepth 100000 in
theorem pad_16 (a : Option Addr) (xs : List Int) (hn : xs.length = 16) (w : World) (h : HoldsB w a xs) :
    Calls Tryd.prog 41 #[.slice a 16 16] w (PadEnd xs w) := by
  obtain ⟨i0, hi, hz0, hz1, hz2⟩ := info_parts Tryd.info5
  rcases h.2 with rfl | ⟨b, off, rfl, hbk, hcs⟩
  · simp at hn
  have RUN := Lib.hid (run_append_no_zeros (P := Tryd.prog) w 22 3 22 5 i0 .i64 .i64 Tryd.underlying22 rfl hi ⟨b, off, none⟩ 16 16 (Nat.le_refl _))
  have HH := Lib.hid h
  have HE : Hid (padL xs = xs) := by show _ = _; unfold padL; rw [hn]; simp
  clear h hn hcs hbk
  go_enter Tryd.func41, Tryd.ntmps41
  go_wp2_with (at_builtin; refine Lib.wpList_append_run _ rfl _ _ _ _ rfl _ _ rfl rfl _ _ RUN.out ?_)
  go_ret
  exact ⟨_, _, rfl, Nat.le_refl _, by rw [HE.out]; exact HH.out, Gr.refl w⟩
end Go.Proofs.YtbejikpopealdaaDoor
