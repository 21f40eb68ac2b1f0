/-
  DERIVED. GIVEN WITH THE SEED: THE CARDS: each row of YtnchgmjeoajmiaaGreatDoorRows.lean that lists a variable, with what it lists TIED to the program's text (the seventh form; the later family's looks); each row that meets fmt, with fmt's text TOLD by the authors' own Lean function (tested against real Go, not proved from fmt's source: count such statements apart). THE CARD IS WHAT COUNTS. Prove the row's statement (the work); the ties are given (YtnchgmjeoajmiaaGreatDoorTie.lean); close each card by the builder's one call (the guide's Derived/Test/ToyasCard.lean, 'card_holds'). Laid BY PROGRAM, IN A SANDBOX (cutbox-door.mjs). By AI agents, Wed Nov 11 2026. No macro, syntax, notation, axiom, sorry.
-/
import Derived.Test.YtnchgmjeoajmiaaGreatDoorRows
import GoSem.ClaimSeven
namespace Go.Proofs.YtnchgmjeoajmiaaGreatDoor
namespace Rows

/-- THE TIED CARD OF 'laws.FnProxyCGI'. -/
def fnProxyCGICard : Claim7 := { stood := { row := fnProxyCGIRow, standIns := [], harness := (true, "255450aa6630a7317d4c7b85c8647b543eb43c66b87a2c3c8df52c519baec2f0"), looks := false }, kinds := [], alts := [], laidByText := true, laidKinds := [.data, .listed, .data, .called, .called, .data, .mapped, .zero, .pinned, .pinned], laidTests := true, laidLooks := .later }
def FnProxyCGICardSaid : Prop := Claim7.holds Tryz.pinned (.plain (OpenSpec.ofChange fnProxyCGISpec)) fnProxyCGICard

/-- THE TIED CARD OF 'laws.FnProxyNone'. -/
def fnProxyNoneCard : Claim7 := { stood := { row := fnProxyNoneRow, standIns := [], harness := (true, "255450aa6630a7317d4c7b85c8647b543eb43c66b87a2c3c8df52c519baec2f0"), looks := false }, kinds := [], alts := [], laidByText := true, laidKinds := [.data, .listed, .data, .called, .called, .data, .mapped, .zero, .pinned, .pinned], laidTests := true, laidLooks := .later }
def FnProxyNoneCardSaid : Prop := Claim7.holds Tryz.pinned (.plain (OpenSpec.ofChange fnProxyNoneSpec)) fnProxyNoneCard

/-- THE TIED CARD OF 'laws.FnUseAddress'. -/
def fnUseAddressCard : Claim7 := { stood := { row := fnUseAddressRow, standIns := [], harness := (true, "255450aa6630a7317d4c7b85c8647b543eb43c66b87a2c3c8df52c519baec2f0"), looks := false }, kinds := [], alts := [], laidByText := true, laidKinds := [.data, .data, .data, .data, .listed, .data, .called, .called, .data, .zero, .pinned, .pinned], laidTests := true, laidLooks := .later }
def FnUseAddressCardSaid : Prop := Claim7.holds Tryz.pinned (.plain (OpenSpec.ofChange fnUseAddressSpec)) fnUseAddressCard

/-- THE TIED CARD OF 'laws.FnUseCase'. -/
def fnUseCaseCard : Claim7 := { stood := { row := fnUseCaseRow, standIns := [], harness := (true, "255450aa6630a7317d4c7b85c8647b543eb43c66b87a2c3c8df52c519baec2f0"), looks := false }, kinds := [], alts := [], laidByText := true, laidKinds := [.data, .data, .data, .data, .listed, .data, .called, .called, .data, .zero, .pinned, .pinned], laidTests := true, laidLooks := .later }
def FnUseCaseCardSaid : Prop := Claim7.holds Tryz.pinned (.plain (OpenSpec.ofChange fnUseCaseSpec)) fnUseCaseCard

/-- THE TIED CARD OF 'laws.FnUseLocal'. -/
def fnUseLocalCard : Claim7 := { stood := { row := fnUseLocalRow, standIns := [], harness := (true, "255450aa6630a7317d4c7b85c8647b543eb43c66b87a2c3c8df52c519baec2f0"), looks := false }, kinds := [], alts := [], laidByText := true, laidKinds := [.data, .data, .data, .data, .listed, .data, .called, .called, .data, .zero, .pinned, .pinned], laidTests := true, laidLooks := .later }
def FnUseLocalCardSaid : Prop := Claim7.holds Tryz.pinned (.plain (OpenSpec.ofChange fnUseLocalSpec)) fnUseLocalCard

/-- THE TIED CARD OF 'laws.FnUseName'. -/
def fnUseNameCard : Claim7 := { stood := { row := fnUseNameRow, standIns := [], harness := (true, "255450aa6630a7317d4c7b85c8647b543eb43c66b87a2c3c8df52c519baec2f0"), looks := false }, kinds := [], alts := [], laidByText := true, laidKinds := [.data, .data, .data, .data, .listed, .data, .called, .called, .data, .zero, .pinned, .pinned], laidTests := true, laidLooks := .later }
def FnUseNameCardSaid : Prop := Claim7.holds Tryz.pinned (.plain (OpenSpec.ofChange fnUseNameSpec)) fnUseNameCard

/-- THE TIED CARD OF 'laws.FnUseOrder'. -/
def fnUseOrderCard : Claim7 := { stood := { row := fnUseOrderRow, standIns := [], harness := (true, "255450aa6630a7317d4c7b85c8647b543eb43c66b87a2c3c8df52c519baec2f0"), looks := false }, kinds := [], alts := [], laidByText := true, laidKinds := [.data, .data, .data, .data, .listed, .data, .called, .called, .data, .zero, .pinned, .pinned], laidTests := true, laidLooks := .later }
def FnUseOrderCardSaid : Prop := Claim7.holds Tryz.pinned (.plain (OpenSpec.ofChange fnUseOrderSpec)) fnUseOrderCard

/-- THE TIED CARD OF 'laws.FnUseStar'. -/
def fnUseStarCard : Claim7 := { stood := { row := fnUseStarRow, standIns := [], harness := (true, "255450aa6630a7317d4c7b85c8647b543eb43c66b87a2c3c8df52c519baec2f0"), looks := false }, kinds := [], alts := [], laidByText := true, laidKinds := [.data, .data, .data, .data, .listed, .data, .called, .called, .data, .zero, .pinned, .pinned], laidTests := true, laidLooks := .later }
def FnUseStarCardSaid : Prop := Claim7.holds Tryz.pinned (.plain (OpenSpec.ofChange fnUseStarSpec)) fnUseStarCard

/-- THE TIED CARD OF 'laws.FnUseTwo'. -/
def fnUseTwoCard : Claim7 := { stood := { row := fnUseTwoRow, standIns := [], harness := (true, "255450aa6630a7317d4c7b85c8647b543eb43c66b87a2c3c8df52c519baec2f0"), looks := false }, kinds := [], alts := [], laidByText := true, laidKinds := [.data, .data, .data, .data, .listed, .data, .called, .called, .data, .zero, .pinned, .pinned], laidTests := true, laidLooks := .later }
def FnUseTwoCardSaid : Prop := Claim7.holds Tryz.pinned (.plain (OpenSpec.ofChange fnUseTwoSpec)) fnUseTwoCard

/-- THE TIED CARD OF 'laws.FnRulesAddress'. -/
def fnRulesAddressCard : Claim7 := { stood := { row := fnRulesAddressRow, standIns := [], harness := (true, "255450aa6630a7317d4c7b85c8647b543eb43c66b87a2c3c8df52c519baec2f0"), looks := false }, kinds := [], alts := [], laidByText := true, laidKinds := [.data, .data, .data, .data, .listed, .data, .called, .called, .data, .zero, .pinned, .pinned], laidTests := true, laidLooks := .later }
def FnRulesAddressCardSaid : Prop := Claim7.holds Tryz.pinned (.plain (OpenSpec.ofChange fnRulesAddressSpec)) fnRulesAddressCard

/-- THE TIED CARD OF 'laws.FnRulesName'. -/
def fnRulesNameCard : Claim7 := { stood := { row := fnRulesNameRow, standIns := [], harness := (true, "255450aa6630a7317d4c7b85c8647b543eb43c66b87a2c3c8df52c519baec2f0"), looks := false }, kinds := [], alts := [], laidByText := true, laidKinds := [.data, .data, .data, .data, .listed, .data, .called, .called, .data, .zero, .pinned, .pinned], laidTests := true, laidLooks := .later }
def FnRulesNameCardSaid : Prop := Claim7.holds Tryz.pinned (.plain (OpenSpec.ofChange fnRulesNameSpec)) fnRulesNameCard

/-- THE TIED CARD OF 'laws.FnRulesUse'. -/
def fnRulesUseCard : Claim7 := { stood := { row := fnRulesUseRow, standIns := [], harness := (true, "255450aa6630a7317d4c7b85c8647b543eb43c66b87a2c3c8df52c519baec2f0"), looks := false }, kinds := [], alts := [], laidByText := true, laidKinds := [.data, .data, .data, .data, .listed, .data, .called, .called, .data, .zero, .pinned, .pinned], laidTests := true, laidLooks := .later }
def FnRulesUseCardSaid : Prop := Claim7.holds Tryz.pinned (.plain (OpenSpec.ofChange fnRulesUseSpec)) fnRulesUseCard

/-- THE SECOND FORM's CARD OF 'laws.FnProxyCGI'. -/
def fnProxyCGIUptoCard : Claim7 := { stood := { row := fnProxyCGIUptoRow, standIns := [], harness := (true, "255450aa6630a7317d4c7b85c8647b543eb43c66b87a2c3c8df52c519baec2f0"), looks := false }, kinds := [], alts := [], laidByText := true, laidKinds := [.data, .listed, .data, .called, .called, .data, .mapped, .zero, .pinned, .pinned], laidTests := true, laidLooks := .later }
def FnProxyCGIUptoCardSaid : Prop := Claim7.holds Tryz.pinned (.plain (OpenSpec.upto fnProxyCGISpec)) fnProxyCGIUptoCard

/-- THE SECOND FORM's CARD OF 'laws.FnProxyNone'. -/
def fnProxyNoneUptoCard : Claim7 := { stood := { row := fnProxyNoneUptoRow, standIns := [], harness := (true, "255450aa6630a7317d4c7b85c8647b543eb43c66b87a2c3c8df52c519baec2f0"), looks := false }, kinds := [], alts := [], laidByText := true, laidKinds := [.data, .listed, .data, .called, .called, .data, .mapped, .zero, .pinned, .pinned], laidTests := true, laidLooks := .later }
def FnProxyNoneUptoCardSaid : Prop := Claim7.holds Tryz.pinned (.plain (OpenSpec.upto fnProxyNoneSpec)) fnProxyNoneUptoCard

/-- THE SECOND FORM's CARD OF 'laws.FnUseAddress'. -/
def fnUseAddressUptoCard : Claim7 := { stood := { row := fnUseAddressUptoRow, standIns := [], harness := (true, "255450aa6630a7317d4c7b85c8647b543eb43c66b87a2c3c8df52c519baec2f0"), looks := false }, kinds := [], alts := [], laidByText := true, laidKinds := [.data, .data, .data, .data, .listed, .data, .called, .called, .data, .zero, .pinned, .pinned], laidTests := true, laidLooks := .later }
def FnUseAddressUptoCardSaid : Prop := Claim7.holds Tryz.pinned (.plain (OpenSpec.upto fnUseAddressSpec)) fnUseAddressUptoCard

/-- THE SECOND FORM's CARD OF 'laws.FnUseCase'. -/
def fnUseCaseUptoCard : Claim7 := { stood := { row := fnUseCaseUptoRow, standIns := [], harness := (true, "255450aa6630a7317d4c7b85c8647b543eb43c66b87a2c3c8df52c519baec2f0"), looks := false }, kinds := [], alts := [], laidByText := true, laidKinds := [.data, .data, .data, .data, .listed, .data, .called, .called, .data, .zero, .pinned, .pinned], laidTests := true, laidLooks := .later }
def FnUseCaseUptoCardSaid : Prop := Claim7.holds Tryz.pinned (.plain (OpenSpec.upto fnUseCaseSpec)) fnUseCaseUptoCard

/-- THE SECOND FORM's CARD OF 'laws.FnUseLocal'. -/
def fnUseLocalUptoCard : Claim7 := { stood := { row := fnUseLocalUptoRow, standIns := [], harness := (true, "255450aa6630a7317d4c7b85c8647b543eb43c66b87a2c3c8df52c519baec2f0"), looks := false }, kinds := [], alts := [], laidByText := true, laidKinds := [.data, .data, .data, .data, .listed, .data, .called, .called, .data, .zero, .pinned, .pinned], laidTests := true, laidLooks := .later }
def FnUseLocalUptoCardSaid : Prop := Claim7.holds Tryz.pinned (.plain (OpenSpec.upto fnUseLocalSpec)) fnUseLocalUptoCard

/-- THE SECOND FORM's CARD OF 'laws.FnUseName'. -/
def fnUseNameUptoCard : Claim7 := { stood := { row := fnUseNameUptoRow, standIns := [], harness := (true, "255450aa6630a7317d4c7b85c8647b543eb43c66b87a2c3c8df52c519baec2f0"), looks := false }, kinds := [], alts := [], laidByText := true, laidKinds := [.data, .data, .data, .data, .listed, .data, .called, .called, .data, .zero, .pinned, .pinned], laidTests := true, laidLooks := .later }
def FnUseNameUptoCardSaid : Prop := Claim7.holds Tryz.pinned (.plain (OpenSpec.upto fnUseNameSpec)) fnUseNameUptoCard

/-- THE SECOND FORM's CARD OF 'laws.FnUseOrder'. -/
def fnUseOrderUptoCard : Claim7 := { stood := { row := fnUseOrderUptoRow, standIns := [], harness := (true, "255450aa6630a7317d4c7b85c8647b543eb43c66b87a2c3c8df52c519baec2f0"), looks := false }, kinds := [], alts := [], laidByText := true, laidKinds := [.data, .data, .data, .data, .listed, .data, .called, .called, .data, .zero, .pinned, .pinned], laidTests := true, laidLooks := .later }
def FnUseOrderUptoCardSaid : Prop := Claim7.holds Tryz.pinned (.plain (OpenSpec.upto fnUseOrderSpec)) fnUseOrderUptoCard

/-- THE SECOND FORM's CARD OF 'laws.FnUseStar'. -/
def fnUseStarUptoCard : Claim7 := { stood := { row := fnUseStarUptoRow, standIns := [], harness := (true, "255450aa6630a7317d4c7b85c8647b543eb43c66b87a2c3c8df52c519baec2f0"), looks := false }, kinds := [], alts := [], laidByText := true, laidKinds := [.data, .data, .data, .data, .listed, .data, .called, .called, .data, .zero, .pinned, .pinned], laidTests := true, laidLooks := .later }
def FnUseStarUptoCardSaid : Prop := Claim7.holds Tryz.pinned (.plain (OpenSpec.upto fnUseStarSpec)) fnUseStarUptoCard

/-- THE SECOND FORM's CARD OF 'laws.FnUseTwo'. -/
def fnUseTwoUptoCard : Claim7 := { stood := { row := fnUseTwoUptoRow, standIns := [], harness := (true, "255450aa6630a7317d4c7b85c8647b543eb43c66b87a2c3c8df52c519baec2f0"), looks := false }, kinds := [], alts := [], laidByText := true, laidKinds := [.data, .data, .data, .data, .listed, .data, .called, .called, .data, .zero, .pinned, .pinned], laidTests := true, laidLooks := .later }
def FnUseTwoUptoCardSaid : Prop := Claim7.holds Tryz.pinned (.plain (OpenSpec.upto fnUseTwoSpec)) fnUseTwoUptoCard

/-- THE SECOND FORM's CARD OF 'laws.FnRulesAddress'. -/
def fnRulesAddressUptoCard : Claim7 := { stood := { row := fnRulesAddressUptoRow, standIns := [], harness := (true, "255450aa6630a7317d4c7b85c8647b543eb43c66b87a2c3c8df52c519baec2f0"), looks := false }, kinds := [], alts := [], laidByText := true, laidKinds := [.data, .data, .data, .data, .listed, .data, .called, .called, .data, .zero, .pinned, .pinned], laidTests := true, laidLooks := .later }
def FnRulesAddressUptoCardSaid : Prop := Claim7.holds Tryz.pinned (.plain (OpenSpec.upto fnRulesAddressSpec)) fnRulesAddressUptoCard

/-- THE SECOND FORM's CARD OF 'laws.FnRulesName'. -/
def fnRulesNameUptoCard : Claim7 := { stood := { row := fnRulesNameUptoRow, standIns := [], harness := (true, "255450aa6630a7317d4c7b85c8647b543eb43c66b87a2c3c8df52c519baec2f0"), looks := false }, kinds := [], alts := [], laidByText := true, laidKinds := [.data, .data, .data, .data, .listed, .data, .called, .called, .data, .zero, .pinned, .pinned], laidTests := true, laidLooks := .later }
def FnRulesNameUptoCardSaid : Prop := Claim7.holds Tryz.pinned (.plain (OpenSpec.upto fnRulesNameSpec)) fnRulesNameUptoCard

/-- THE SECOND FORM's CARD OF 'laws.FnRulesUse'. -/
def fnRulesUseUptoCard : Claim7 := { stood := { row := fnRulesUseUptoRow, standIns := [], harness := (true, "255450aa6630a7317d4c7b85c8647b543eb43c66b87a2c3c8df52c519baec2f0"), looks := false }, kinds := [], alts := [], laidByText := true, laidKinds := [.data, .data, .data, .data, .listed, .data, .called, .called, .data, .zero, .pinned, .pinned], laidTests := true, laidLooks := .later }
def FnRulesUseUptoCardSaid : Prop := Claim7.holds Tryz.pinned (.plain (OpenSpec.upto fnRulesUseSpec)) fnRulesUseUptoCard
end Rows
end Go.Proofs.YtnchgmjeoajmiaaGreatDoor
