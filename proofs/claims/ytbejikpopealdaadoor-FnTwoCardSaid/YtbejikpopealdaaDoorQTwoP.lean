/-
  FnTwo: for every input the law returns true; each argument reads behind the call as it read before. The condition: the listed package variables read as the program's text lays them, which the card ties to that text.
-/
import Derived.Test.YtbejikpopealdaaDoorQTwo
import Derived.Test.YtbejikpopealdaaDoorQLaidB
import Derived.Test.YtbejikpopealdaaDoorCards
import Derived.Test.YtbejikpopealdaaDoorTie
import Derived.SevenTiedAt
namespace Go.Proofs.YtbejikpopealdaaDoor
open Go.ChangeShapes Go.WideShapes Go.ChangeAt Go.RowKit

set_option maxRecDepth 100000 in
theorem fnTwo_lifted (os : Os) (started : os.Started) (H : Type) (enc : TypeId × Value → H) :
    ReturnsInHanded {} Tryd.checked os 10 .any (fun w args => (Rows.fnTwoSpec.pre enc Tryd.prog Tryd.f10 [] false w args ∧ laidMetH Tryd.prog Rows.fnTwoRow.laid w) ∧ sizedMet enc Tryd.prog Tryd.f10 (OpenSpec.ofChange Rows.fnTwoSpec) false w args)
      (Rows.fnTwoSpec.post enc Tryd.prog Tryd.f10 false true false false) := by
  refine returnsInHanded_of_change_and (C := Tryd.checked) (X := fun w _ => laidMetH Tryd.prog Rows.fnTwoRow.laid w) (fun _ _ _ hh h => h.of_heap hh) own started (by kernel_rfl) Tryd.func10
    (ChangeSpec.witness_shaped (enc := enc) (C := Tryd.checked) (os := os) (X := fun w _ => laidMetH Tryd.prog Rows.fnTwoRow.laid w) false (World.laidAll Tryd.prog os Rows.fnTwoRow.laid) #[.slice none 0 0, .slice none 0 0, .slice none 0 0, .slice none 0 0] 8 (World.laidAll_os _ _ _)
      (World.shaped_of_ZipB (by kernel_rfl) (by kernel_rfl)) (by kernel_rfl) (by kernel_rfl) (by kernel_rfl)
      (by rw [MakeChecks.laidMetH_plain _ _ _ (by kernel_rfl)]; exact laidMet_laidAll _ (by kernel_rfl) (by kernel_rfl))) ?_
  intro W base args ds gs before hval0 hW _ _ hL hsz
  have hval : ∀ (j : Nat) t v, Tryd.f10.params[j]? = some t → args[j]? = some v → Value.okWide Tryd.prog W .any base t v := hval0
  have hW' := hW
  obtain ⟨p, q, hA0, hV, rfl, hfz, hnd⟩ := hW
  have hA : DataW.TrodAll enc Tryd.prog W 0 (fun _ => true) true Tryd.f10.params.toList args.toList ds p := hA0
  rw [Tryd.params10] at hA hval
  obtain ⟨v0, vs0, d0, ds0, p0, q0, hargs, rfl, rfl, h0, r0⟩ := trodAll_cons hA
  obtain ⟨v1, vs1, d1, ds1, p1, q1, rfl, rfl, rfl, h1, r1⟩ := trodAll_cons r0
  obtain ⟨v2, vs2, d2, ds2, p2, q2, rfl, rfl, rfl, h2, r2⟩ := trodAll_cons r1
  obtain ⟨v3, vs3, d3, ds3, p3, q3, rfl, rfl, rfl, h3, r3⟩ := trodAll_cons r2
  obtain ⟨rfl, rfl, rfl⟩ := trodAll_nil r3
  obtain rfl : args = #[v0, v1, v2, v3] := by cases args; simp_all
  obtain ⟨rfl, rfl⟩ := trodVars_none hV
  obtain ⟨p4, p6, N⟩ := env_of_laid8 hL
  have k0 := h0
  have lt0 : ∀ x ∈ p0, x.block < W.heap.size := by obtain ⟨m, hm⟩ := k0; exact DataW.trod_lt m _ _ _ hm
  obtain ⟨a0, z0, c0, rfl, cap0, mx0, hb0⟩ : ∃ a zs c, v0 = .slice a zs.length c ∧ zs.length ≤ c ∧ c ≤ maxLen ∧ HoldsB W a zs := by obtain ⟨fuel, hf⟩ := h0; exact bytes_in (hval 0 22 v0 rfl rfl) hf
  have k1 := h1
  have lt1 : ∀ x ∈ p1, x.block < W.heap.size := by obtain ⟨m, hm⟩ := k1; exact DataW.trod_lt m _ _ _ hm
  obtain ⟨a1, z1, c1, rfl, cap1, mx1, hb1⟩ : ∃ a zs c, v1 = .slice a zs.length c ∧ zs.length ≤ c ∧ c ≤ maxLen ∧ HoldsB W a zs := by obtain ⟨fuel, hf⟩ := h1; exact bytes_in (hval 1 22 v1 rfl rfl) hf
  have k2 := h2
  have lt2 : ∀ x ∈ p2, x.block < W.heap.size := by obtain ⟨m, hm⟩ := k2; exact DataW.trod_lt m _ _ _ hm
  obtain ⟨a2, z2, c2, rfl, cap2, mx2, hb2⟩ : ∃ a zs c, v2 = .slice a zs.length c ∧ zs.length ≤ c ∧ c ≤ maxLen ∧ HoldsB W a zs := by obtain ⟨fuel, hf⟩ := h2; exact bytes_in (hval 2 22 v2 rfl rfl) hf
  have k3 := h3
  have lt3 : ∀ x ∈ p3, x.block < W.heap.size := by obtain ⟨m, hm⟩ := k3; exact DataW.trod_lt m _ _ _ hm
  obtain ⟨a3, z3, c3, rfl, cap3, mx3, hb3⟩ : ∃ a zs c, v3 = .slice a zs.length c ∧ zs.length ≤ c ∧ c ≤ maxLen ∧ HoldsB W a zs := by obtain ⟨fuel, hf⟩ := h3; exact bytes_in (hval 3 22 v3 rfl rfl) hf
  clear hA0 hval0
  refine (two_walk p4 p6 a0 z0 c0 a1 z1 c1 a2 z2 c2 a3 z3 c3 W N cap0 mx0 hb0 cap1 mx1 hb1 cap2 mx2 hb2 cap3 mx3 hb3).mono fun e W' ⟨he, bel⟩ => ?_
  subst he
  exact ⟨_, rfl, _, _, _, [], _, [], hW', trodAll_mk1 (shut_bool Tryd.underlying4 _), (trodAll_cons_mk (Below.trod laidOut (by kernel_rfl) (of_decide_eq_true (by kernel_rfl)) k0 bel lt0) (trodAll_cons_mk (Below.trod laidOut (by kernel_rfl) (of_decide_eq_true (by kernel_rfl)) k1 bel lt1) (trodAll_cons_mk (Below.trod laidOut (by kernel_rfl) (of_decide_eq_true (by kernel_rfl)) k2 bel lt2) (trodAll_cons_mk (Below.trod laidOut (by kernel_rfl) (of_decide_eq_true (by kernel_rfl)) k3 bel lt3) trodAll_mk0)))), rfl, bel.frame _, fun h => by cases h⟩

theorem fnTwo_holds : Rows.FnTwoSaid :=
  OpenClaim.holds_of_wide 10 Tryd.f10 rfl rfl rfl rfl rfl rfl rfl ⟨rfl, rfl, rfl, rfl, rfl⟩ rfl rfl rfl rfl rfl (by kernel_rfl) Tryd.func10 (by kernel_rfl)
    (of_decide_eq_true (by kernel_rfl)) (by unfold Func.isWrapper; first | (rw [if_pos (by decide +kernel)]; kernel_rfl) | (rw [if_neg (by decide +kernel)]; exact ⟨rfl, rfl⟩))
    (fun os started H enc _ => fnTwo_lifted os started H enc)

/-- The tied card. -/
theorem fnTwo_card : Rows.FnTwoCardSaid :=
  Claim7.holds_tied_plain_at .later [] [.data, .data, .data, .sentinel, .sentinel, .called, .called, .zero] true (true, "f244b7a08b6f75ed67e742e62d8844cfeed1bbea9bec91497d7e0973706a056f") true
    fnTwo_holds (fun _ h => by cases h) (by kernel_rfl) (fun _ h => by cases h) fnTwo_row_tie rfl ⟨rfl, rfl⟩ (by kernel_rfl) rfl
    (fun f fn hf hfn => by
      obtain rfl : f = 10 := Option.some.inj ((show Tryd.prog.funcNamed "addresschoice/laws.FnTwo" = some 10 by kernel_rfl).symm.trans hf) |>.symm
      obtain rfl : fn = Tryd.f10 := (Option.some.inj (Tryd.func10.symm.trans hfn)).symm
      exact ⟨by kernel_rfl, fun j t ht => by
        rw [Tryd.params10] at ht
        have hm : t ∈ [22, 22, 22, 22] := by simpa using Array.mem_of_getElem? ht
        have hall : ([22, 22, 22, 22].all fun u => !Tryd.prog.wantsStandIn u) = true := by kernel_rfl
        exact (show Tryd.prog.wantsStandIn t = false by simpa using List.all_eq_true.1 hall t hm)⟩)
    (by kernel_rfl)
end Go.Proofs.YtbejikpopealdaaDoor
