/-
  FnFewerKeepTheirOrder: for every input the law returns true; each argument reads behind the call as it read before. The condition: the listed package variables read as the program's text lays them, which the card ties to that text.
-/
import Derived.Test.YtbejikpopealdaaDoorQFew
import Derived.Test.YtbejikpopealdaaDoorQLaidB
import Derived.Test.YtbejikpopealdaaDoorCards
import Derived.Test.YtbejikpopealdaaDoorTie
import Derived.SevenTiedAt
namespace Go.Proofs.YtbejikpopealdaaDoor
open Go.ChangeShapes Go.WideShapes Go.ChangeAt Go.RowKit

set_option maxRecDepth 100000 in
theorem fnFewerKeepTheirOrder_lifted (os : Os) (started : os.Started) (H : Type) (enc : TypeId × Value → H) :
    ReturnsInHanded {} Tryd.checked os 8 .any (fun w args => (Rows.fnFewerKeepTheirOrderSpec.pre enc Tryd.prog Tryd.f8 [] false w args ∧ laidMetH Tryd.prog Rows.fnFewerKeepTheirOrderRow.laid w) ∧ sizedMet enc Tryd.prog Tryd.f8 (OpenSpec.ofChange Rows.fnFewerKeepTheirOrderSpec) false w args)
      (Rows.fnFewerKeepTheirOrderSpec.post enc Tryd.prog Tryd.f8 false true false false) := by
  refine returnsInHanded_of_change_and (C := Tryd.checked) (X := fun w _ => laidMetH Tryd.prog Rows.fnFewerKeepTheirOrderRow.laid w) (fun _ _ _ hh h => h.of_heap hh) own started (by kernel_rfl) Tryd.func8
    (ChangeSpec.witness_shaped (enc := enc) (C := Tryd.checked) (os := os) (X := fun w _ => laidMetH Tryd.prog Rows.fnFewerKeepTheirOrderRow.laid w) false (World.laidAll Tryd.prog os Rows.fnFewerKeepTheirOrderRow.laid) #[.slice none 0 0, .slice none 0 0, .int .i64 0] 8 (World.laidAll_os _ _ _)
      (World.shaped_of_ZipB (by kernel_rfl) (by kernel_rfl)) (by kernel_rfl) (by kernel_rfl) (by kernel_rfl)
      (by rw [MakeChecks.laidMetH_plain _ _ _ (by kernel_rfl)]; exact laidMet_laidAll _ (by kernel_rfl) (by kernel_rfl))) ?_
  intro W base args ds gs before hval0 hW _ _ hL hsz
  have hval : ∀ (j : Nat) t v, Tryd.f8.params[j]? = some t → args[j]? = some v → Value.okWide Tryd.prog W .any base t v := hval0
  have hW' := hW
  obtain ⟨p, q, hA0, hV, rfl, hfz, hnd⟩ := hW
  have hA : DataW.TrodAll enc Tryd.prog W 0 (fun _ => true) true Tryd.f8.params.toList args.toList ds p := hA0
  rw [Tryd.params8] at hA hval
  obtain ⟨v0, vs0, d0, ds0, p0, q0, hargs, rfl, rfl, h0, r0⟩ := trodAll_cons hA
  obtain ⟨v1, vs1, d1, ds1, p1, q1, rfl, rfl, rfl, h1, r1⟩ := trodAll_cons r0
  obtain ⟨v2, vs2, d2, ds2, p2, q2, rfl, rfl, rfl, h2, r2⟩ := trodAll_cons r1
  obtain ⟨rfl, rfl, rfl⟩ := trodAll_nil r2
  obtain rfl : args = #[v0, v1, v2] := by cases args; simp_all
  obtain ⟨rfl, rfl⟩ := trodVars_none hV
  obtain ⟨p4, p6, N⟩ := env_of_laid8 hL
  have k0 := h0
  have lt0 : ∀ x ∈ p0, x.block < W.heap.size := by obtain ⟨m, hm⟩ := k0; exact DataW.trod_lt m _ _ _ hm
  obtain ⟨a0, z0, c0, rfl, cap0, mx0, hb0⟩ : ∃ a zss c, v0 = .slice a zss.length c ∧ zss.length ≤ c ∧ c ≤ maxLen ∧ HoldsBB W a zss := by obtain ⟨fuel, hf⟩ := h0; exact rows_in (hval 0 31 v0 rfl rfl) hf
  have k1 := h1
  have lt1 : ∀ x ∈ p1, x.block < W.heap.size := by obtain ⟨m, hm⟩ := k1; exact DataW.trod_lt m _ _ _ hm
  obtain ⟨a1, z1, c1, rfl, cap1, mx1, hb1⟩ : ∃ a zss c, v1 = .slice a zss.length c ∧ zss.length ≤ c ∧ c ≤ maxLen ∧ HoldsBB W a zss := by obtain ⟨fuel, hf⟩ := h1; exact rows_in (hval 1 31 v1 rfl rfl) hf
  obtain ⟨a2, rfl, rfl, rfl, w2⟩ := open_int Tryd.underlying3 (hval 2 3 v2 rfl rfl) h2
  clear hA0 hval0
  refine (few_walk p4 p6 a0 z0 c0 a1 z1 c1 a2 W N cap0 mx0 hb0 cap1 mx1 hb1 w2).mono fun e W' ⟨he, bel⟩ => ?_
  subst he
  exact ⟨_, rfl, _, _, _, [], _, [], hW', trodAll_mk1 (shut_bool Tryd.underlying4 _), (trodAll_cons_mk (Below.trod laidOut (by kernel_rfl) (of_decide_eq_true (by kernel_rfl)) k0 bel lt0) (trodAll_cons_mk (Below.trod laidOut (by kernel_rfl) (of_decide_eq_true (by kernel_rfl)) k1 bel lt1) (trodAll_cons_mk (shut_int Tryd.underlying3 w2) trodAll_mk0))), rfl, bel.frame _, fun h => by cases h⟩

theorem fnFewerKeepTheirOrder_holds : Rows.FnFewerKeepTheirOrderSaid :=
  OpenClaim.holds_of_wide 8 Tryd.f8 rfl rfl rfl rfl rfl rfl rfl ⟨rfl, rfl, rfl, rfl, rfl⟩ rfl rfl rfl rfl rfl (by kernel_rfl) Tryd.func8 (by kernel_rfl)
    (of_decide_eq_true (by kernel_rfl)) (by unfold Func.isWrapper; first | (rw [if_pos (by decide +kernel)]; kernel_rfl) | (rw [if_neg (by decide +kernel)]; exact ⟨rfl, rfl⟩))
    (fun os started H enc _ => fnFewerKeepTheirOrder_lifted os started H enc)

/-- The tied card. -/
theorem fnFewerKeepTheirOrder_card : Rows.FnFewerKeepTheirOrderCardSaid :=
  Claim7.holds_tied_plain_at .later [] [.data, .data, .data, .sentinel, .sentinel, .called, .called, .zero] true (true, "f244b7a08b6f75ed67e742e62d8844cfeed1bbea9bec91497d7e0973706a056f") true
    fnFewerKeepTheirOrder_holds (fun _ h => by cases h) (by kernel_rfl) (fun _ h => by cases h) fnFewerKeepTheirOrder_row_tie rfl ⟨rfl, rfl⟩ (by kernel_rfl) rfl
    (fun f fn hf hfn => by
      obtain rfl : f = 8 := Option.some.inj ((show Tryd.prog.funcNamed "addresschoice/laws.FnFewerKeepTheirOrder" = some 8 by kernel_rfl).symm.trans hf) |>.symm
      obtain rfl : fn = Tryd.f8 := (Option.some.inj (Tryd.func8.symm.trans hfn)).symm
      exact ⟨by kernel_rfl, fun j t ht => by
        rw [Tryd.params8] at ht
        have hm : t ∈ [31, 31, 3] := by simpa using Array.mem_of_getElem? ht
        have hall : ([31, 31, 3].all fun u => !Tryd.prog.wantsStandIn u) = true := by kernel_rfl
        exact (show Tryd.prog.wantsStandIn t = false by simpa using List.all_eq_true.1 hall t hm)⟩)
    (by kernel_rfl)
end Go.Proofs.YtbejikpopealdaaDoor
