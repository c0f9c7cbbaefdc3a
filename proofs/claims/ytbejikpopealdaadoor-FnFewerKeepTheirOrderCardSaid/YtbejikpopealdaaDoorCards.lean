/-
  DERIVED. GIVEN WITH THE SEED: THE CARDS: each row of YtbejikpopealdaaDoorRows.lean that lists a variable, with what it lists TIED to the program's text (the seventh form; the later family's looks); each row that meets fmt, with fmt's text TOLD by the authors' own Lean function (tested against real Go, not proved from fmt's source: count such statements apart). THE CARD IS WHAT COUNTS. Prove the row's statement (the work); the ties are given (YtbejikpopealdaaDoorTie.lean); close each card by the builder's one call (the guide's Derived/Test/ToyasCard.lean, 'card_holds'). Laid BY PROGRAM, IN A SANDBOX (cutbox-door.mjs). By AI agents, Wed Nov 11 2026. No macro, syntax, notation, axiom, sorry.
-/
import Derived.Test.YtbejikpopealdaaDoorRows
import GoSem.ClaimSeven
namespace Go.Proofs.YtbejikpopealdaaDoor
namespace Rows

/-- THE TIED CARD OF 'laws.FnCommon'. -/
def fnCommonCard : Claim7 := { stood := { row := fnCommonRow, standIns := [], harness := (true, "f244b7a08b6f75ed67e742e62d8844cfeed1bbea9bec91497d7e0973706a056f"), looks := true }, kinds := [], alts := [], laidByText := true, laidKinds := [.called, .called, .zero], laidTests := true, laidLooks := .later }
def FnCommonCardSaid : Prop := Claim7.holds Tryd.pinned (.plain (OpenSpec.ofChange fnCommonSpec)) fnCommonCard

/-- THE TIED CARD OF 'laws.FnScope'. -/
def fnScopeCard : Claim7 := { stood := { row := fnScopeRow, standIns := [], harness := (true, "f244b7a08b6f75ed67e742e62d8844cfeed1bbea9bec91497d7e0973706a056f"), looks := true }, kinds := [], alts := [], laidByText := true, laidKinds := [.called, .called, .zero], laidTests := true, laidLooks := .later }
def FnScopeCardSaid : Prop := Claim7.holds Tryd.pinned (.plain (OpenSpec.ofChange fnScopeSpec)) fnScopeCard

/-- THE TIED CARD OF 'laws.FnPolicy'. -/
def fnPolicyCard : Claim7 := { stood := { row := fnPolicyRow, standIns := [], harness := (true, "f244b7a08b6f75ed67e742e62d8844cfeed1bbea9bec91497d7e0973706a056f"), looks := true }, kinds := [], alts := [], laidByText := true, laidKinds := [.called, .called, .zero], laidTests := true, laidLooks := .later }
def FnPolicyCardSaid : Prop := Claim7.holds Tryd.pinned (.plain (OpenSpec.ofChange fnPolicySpec)) fnPolicyCard

/-- THE TIED CARD OF 'laws.FnMappedIsTheSame'. -/
def fnMappedIsTheSameCard : Claim7 := { stood := { row := fnMappedIsTheSameRow, standIns := [], harness := (true, "f244b7a08b6f75ed67e742e62d8844cfeed1bbea9bec91497d7e0973706a056f"), looks := true }, kinds := [], alts := [], laidByText := true, laidKinds := [.called, .called, .zero], laidTests := true, laidLooks := .later }
def FnMappedIsTheSameCardSaid : Prop := Claim7.holds Tryd.pinned (.plain (OpenSpec.ofChange fnMappedIsTheSameSpec)) fnMappedIsTheSameCard

/-- THE TIED CARD OF 'laws.FnAllAreThere'. -/
def fnAllAreThereCard : Claim7 := { stood := { row := fnAllAreThereRow, standIns := [], harness := (true, "f244b7a08b6f75ed67e742e62d8844cfeed1bbea9bec91497d7e0973706a056f"), looks := true }, kinds := [], alts := [], laidByText := true, laidKinds := [.data, .data, .data, .sentinel, .sentinel, .called, .called, .zero], laidTests := true, laidLooks := .later }
def FnAllAreThereCardSaid : Prop := Claim7.holds Tryd.pinned (.plain (OpenSpec.ofChange fnAllAreThereSpec)) fnAllAreThereCard

/-- THE TIED CARD OF 'laws.FnFewerKeepTheirOrder'. -/
def fnFewerKeepTheirOrderCard : Claim7 := { stood := { row := fnFewerKeepTheirOrderRow, standIns := [], harness := (true, "f244b7a08b6f75ed67e742e62d8844cfeed1bbea9bec91497d7e0973706a056f"), looks := true }, kinds := [], alts := [], laidByText := true, laidKinds := [.data, .data, .data, .sentinel, .sentinel, .called, .called, .zero], laidTests := true, laidLooks := .later }
def FnFewerKeepTheirOrderCardSaid : Prop := Claim7.holds Tryd.pinned (.plain (OpenSpec.ofChange fnFewerKeepTheirOrderSpec)) fnFewerKeepTheirOrderCard

/-- THE TIED CARD OF 'laws.FnOrder'. -/
def fnOrderCard : Claim7 := { stood := { row := fnOrderRow, standIns := [], harness := (true, "f244b7a08b6f75ed67e742e62d8844cfeed1bbea9bec91497d7e0973706a056f"), looks := true }, kinds := [], alts := [], laidByText := true, laidKinds := [.data, .data, .data, .sentinel, .sentinel, .called, .called, .zero], laidTests := true, laidLooks := .later }
def FnOrderCardSaid : Prop := Claim7.holds Tryd.pinned (.plain (OpenSpec.ofChange fnOrderSpec)) fnOrderCard

/-- THE TIED CARD OF 'laws.FnTwo'. -/
def fnTwoCard : Claim7 := { stood := { row := fnTwoRow, standIns := [], harness := (true, "f244b7a08b6f75ed67e742e62d8844cfeed1bbea9bec91497d7e0973706a056f"), looks := true }, kinds := [], alts := [], laidByText := true, laidKinds := [.data, .data, .data, .sentinel, .sentinel, .called, .called, .zero], laidTests := true, laidLooks := .later }
def FnTwoCardSaid : Prop := Claim7.holds Tryd.pinned (.plain (OpenSpec.ofChange fnTwoSpec)) fnTwoCard

/-- THE TIED CARD OF 'laws.FnUnreachableAreLast'. -/
def fnUnreachableAreLastCard : Claim7 := { stood := { row := fnUnreachableAreLastRow, standIns := [], harness := (true, "f244b7a08b6f75ed67e742e62d8844cfeed1bbea9bec91497d7e0973706a056f"), looks := true }, kinds := [], alts := [], laidByText := true, laidKinds := [.data, .data, .data, .sentinel, .sentinel, .called, .called, .zero], laidTests := true, laidLooks := .later }
def FnUnreachableAreLastCardSaid : Prop := Claim7.holds Tryd.pinned (.plain (OpenSpec.ofChange fnUnreachableAreLastSpec)) fnUnreachableAreLastCard

/-- THE SECOND FORM's CARD OF 'laws.FnCommon'. -/
def fnCommonUptoCard : Claim7 := { stood := { row := fnCommonUptoRow, standIns := [], harness := (true, "f244b7a08b6f75ed67e742e62d8844cfeed1bbea9bec91497d7e0973706a056f"), looks := true }, kinds := [], alts := [], laidByText := true, laidKinds := [.called, .called, .zero], laidTests := true, laidLooks := .later }
def FnCommonUptoCardSaid : Prop := Claim7.holds Tryd.pinned (.plain (OpenSpec.upto fnCommonSpec)) fnCommonUptoCard

/-- THE SECOND FORM's CARD OF 'laws.FnScope'. -/
def fnScopeUptoCard : Claim7 := { stood := { row := fnScopeUptoRow, standIns := [], harness := (true, "f244b7a08b6f75ed67e742e62d8844cfeed1bbea9bec91497d7e0973706a056f"), looks := true }, kinds := [], alts := [], laidByText := true, laidKinds := [.called, .called, .zero], laidTests := true, laidLooks := .later }
def FnScopeUptoCardSaid : Prop := Claim7.holds Tryd.pinned (.plain (OpenSpec.upto fnScopeSpec)) fnScopeUptoCard

/-- THE SECOND FORM's CARD OF 'laws.FnPolicy'. -/
def fnPolicyUptoCard : Claim7 := { stood := { row := fnPolicyUptoRow, standIns := [], harness := (true, "f244b7a08b6f75ed67e742e62d8844cfeed1bbea9bec91497d7e0973706a056f"), looks := true }, kinds := [], alts := [], laidByText := true, laidKinds := [.called, .called, .zero], laidTests := true, laidLooks := .later }
def FnPolicyUptoCardSaid : Prop := Claim7.holds Tryd.pinned (.plain (OpenSpec.upto fnPolicySpec)) fnPolicyUptoCard

/-- THE SECOND FORM's CARD OF 'laws.FnMappedIsTheSame'. -/
def fnMappedIsTheSameUptoCard : Claim7 := { stood := { row := fnMappedIsTheSameUptoRow, standIns := [], harness := (true, "f244b7a08b6f75ed67e742e62d8844cfeed1bbea9bec91497d7e0973706a056f"), looks := true }, kinds := [], alts := [], laidByText := true, laidKinds := [.called, .called, .zero], laidTests := true, laidLooks := .later }
def FnMappedIsTheSameUptoCardSaid : Prop := Claim7.holds Tryd.pinned (.plain (OpenSpec.upto fnMappedIsTheSameSpec)) fnMappedIsTheSameUptoCard

/-- THE SECOND FORM's CARD OF 'laws.FnAllAreThere'. -/
def fnAllAreThereUptoCard : Claim7 := { stood := { row := fnAllAreThereUptoRow, standIns := [], harness := (true, "f244b7a08b6f75ed67e742e62d8844cfeed1bbea9bec91497d7e0973706a056f"), looks := true }, kinds := [], alts := [], laidByText := true, laidKinds := [.data, .data, .data, .sentinel, .sentinel, .called, .called, .zero], laidTests := true, laidLooks := .later }
def FnAllAreThereUptoCardSaid : Prop := Claim7.holds Tryd.pinned (.plain (OpenSpec.upto fnAllAreThereSpec)) fnAllAreThereUptoCard

/-- THE SECOND FORM's CARD OF 'laws.FnFewerKeepTheirOrder'. -/
def fnFewerKeepTheirOrderUptoCard : Claim7 := { stood := { row := fnFewerKeepTheirOrderUptoRow, standIns := [], harness := (true, "f244b7a08b6f75ed67e742e62d8844cfeed1bbea9bec91497d7e0973706a056f"), looks := true }, kinds := [], alts := [], laidByText := true, laidKinds := [.data, .data, .data, .sentinel, .sentinel, .called, .called, .zero], laidTests := true, laidLooks := .later }
def FnFewerKeepTheirOrderUptoCardSaid : Prop := Claim7.holds Tryd.pinned (.plain (OpenSpec.upto fnFewerKeepTheirOrderSpec)) fnFewerKeepTheirOrderUptoCard

/-- THE SECOND FORM's CARD OF 'laws.FnOrder'. -/
def fnOrderUptoCard : Claim7 := { stood := { row := fnOrderUptoRow, standIns := [], harness := (true, "f244b7a08b6f75ed67e742e62d8844cfeed1bbea9bec91497d7e0973706a056f"), looks := true }, kinds := [], alts := [], laidByText := true, laidKinds := [.data, .data, .data, .sentinel, .sentinel, .called, .called, .zero], laidTests := true, laidLooks := .later }
def FnOrderUptoCardSaid : Prop := Claim7.holds Tryd.pinned (.plain (OpenSpec.upto fnOrderSpec)) fnOrderUptoCard

/-- THE SECOND FORM's CARD OF 'laws.FnTwo'. -/
def fnTwoUptoCard : Claim7 := { stood := { row := fnTwoUptoRow, standIns := [], harness := (true, "f244b7a08b6f75ed67e742e62d8844cfeed1bbea9bec91497d7e0973706a056f"), looks := true }, kinds := [], alts := [], laidByText := true, laidKinds := [.data, .data, .data, .sentinel, .sentinel, .called, .called, .zero], laidTests := true, laidLooks := .later }
def FnTwoUptoCardSaid : Prop := Claim7.holds Tryd.pinned (.plain (OpenSpec.upto fnTwoSpec)) fnTwoUptoCard

/-- THE SECOND FORM's CARD OF 'laws.FnUnreachableAreLast'. -/
def fnUnreachableAreLastUptoCard : Claim7 := { stood := { row := fnUnreachableAreLastUptoRow, standIns := [], harness := (true, "f244b7a08b6f75ed67e742e62d8844cfeed1bbea9bec91497d7e0973706a056f"), looks := true }, kinds := [], alts := [], laidByText := true, laidKinds := [.data, .data, .data, .sentinel, .sentinel, .called, .called, .zero], laidTests := true, laidLooks := .later }
def FnUnreachableAreLastUptoCardSaid : Prop := Claim7.holds Tryd.pinned (.plain (OpenSpec.upto fnUnreachableAreLastSpec)) fnUnreachableAreLastUptoCard
end Rows
end Go.Proofs.YtbejikpopealdaaDoor
