/-
  DERIVED. GIVEN WITH THE SEED: THE CARDS: each row of YthnlimhpnonnmaaDoorRRRRows.lean that lists a variable, with what it lists TIED to the program's text (the seventh form; the later family's looks); each row that meets fmt, with fmt's text TOLD by the authors' own Lean function (tested against real Go, not proved from fmt's source: count such statements apart). THE CARD IS WHAT COUNTS. Prove the row's statement (the work); the ties are given (YthnlimhpnonnmaaDoorRRRTie.lean); close each card by the builder's one call (the guide's Derived/Test/ToyasCard.lean, 'card_holds'). Laid BY PROGRAM, IN A SANDBOX (cutbox-door.mjs). By AI agents, Wed Nov 11 2026. No macro, syntax, notation, axiom, sorry.
-/
import Derived.Test.YthnlimhpnonnmaaDoorRRRRows
import GoSem.ClaimSeven
namespace Go.Proofs.YthnlimhpnonnmaaDoorRRR
namespace Rows

/-- THE TIED CARD OF 'laws.FnPeHeader'. -/
def fnPeHeaderCard : Claim7 := { stood := { row := fnPeHeaderRow, standIns := [], harness := (true, "afbc3d9b53cabbf19f531db935e895af00f349b0cd41efbcba43bb099750aa89"), looks := true }, kinds := [], alts := [], laidByText := true, laidKinds := [.sentinel, .sentinel, .sentinel], laidTests := true, laidLooks := .later }
def FnPeHeaderCardSaid : Prop := Claim7.holds Tryd.pinned (.plain (OpenSpec.ofChange fnPeHeaderSpec)) fnPeHeaderCard

/-- THE TIED CARD OF 'laws.FnPeCoff'. -/
def fnPeCoffCard : Claim7 := { stood := { row := fnPeCoffRow, standIns := [], harness := (true, "afbc3d9b53cabbf19f531db935e895af00f349b0cd41efbcba43bb099750aa89"), looks := true }, kinds := [], alts := [], laidByText := true, laidKinds := [.sentinel, .sentinel, .sentinel], laidTests := true, laidLooks := .later }
def FnPeCoffCardSaid : Prop := Claim7.holds Tryd.pinned (.plain (OpenSpec.ofChange fnPeCoffSpec)) fnPeCoffCard

/-- THE TIED CARD OF 'laws.FnPeSection'. -/
def fnPeSectionCard : Claim7 := { stood := { row := fnPeSectionRow, standIns := [], harness := (true, "afbc3d9b53cabbf19f531db935e895af00f349b0cd41efbcba43bb099750aa89"), looks := true }, kinds := [], alts := [], laidByText := true, laidKinds := [.sentinel, .sentinel, .sentinel], laidTests := true, laidLooks := .later }
def FnPeSectionCardSaid : Prop := Claim7.holds Tryd.pinned (.plain (OpenSpec.ofChange fnPeSectionSpec)) fnPeSectionCard

/-- THE TIED CARD OF 'laws.FnPeAux'. -/
def fnPeAuxCard : Claim7 := { stood := { row := fnPeAuxRow, standIns := [], harness := (true, "afbc3d9b53cabbf19f531db935e895af00f349b0cd41efbcba43bb099750aa89"), looks := true }, kinds := [], alts := [], laidByText := true, laidKinds := [.sentinel, .sentinel, .sentinel], laidTests := true, laidLooks := .later }
def FnPeAuxCardSaid : Prop := Claim7.holds Tryd.pinned (.plain (OpenSpec.ofChange fnPeAuxSpec)) fnPeAuxCard

/-- THE TIED CARD OF 'laws.FnPeRelocs'. -/
def fnPeRelocsCard : Claim7 := { stood := { row := fnPeRelocsRow, standIns := [], harness := (true, "afbc3d9b53cabbf19f531db935e895af00f349b0cd41efbcba43bb099750aa89"), looks := true }, kinds := [], alts := [], laidByText := true, laidKinds := [.sentinel, .sentinel, .sentinel], laidTests := true, laidLooks := .later }
def FnPeRelocsCardSaid : Prop := Claim7.holds Tryd.pinned (.plain (OpenSpec.ofChange fnPeRelocsSpec)) fnPeRelocsCard

/-- THE TIED CARD OF 'laws.FnPeSymbols'. -/
def fnPeSymbolsCard : Claim7 := { stood := { row := fnPeSymbolsRow, standIns := [], harness := (true, "afbc3d9b53cabbf19f531db935e895af00f349b0cd41efbcba43bb099750aa89"), looks := true }, kinds := [], alts := [], laidByText := true, laidKinds := [.sentinel, .sentinel, .sentinel], laidTests := true, laidLooks := .later }
def FnPeSymbolsCardSaid : Prop := Claim7.holds Tryd.pinned (.plain (OpenSpec.ofChange fnPeSymbolsSpec)) fnPeSymbolsCard

/-- THE TIED CARD OF 'laws.FnPeTexts'. -/
def fnPeTextsCard : Claim7 := { stood := { row := fnPeTextsRow, standIns := [], harness := (true, "afbc3d9b53cabbf19f531db935e895af00f349b0cd41efbcba43bb099750aa89"), looks := true }, kinds := [], alts := [], laidByText := true, laidKinds := [.sentinel, .sentinel, .sentinel], laidTests := true, laidLooks := .later }
def FnPeTextsCardSaid : Prop := Claim7.holds Tryd.pinned (.plain (OpenSpec.ofChange fnPeTextsSpec)) fnPeTextsCard

/-- THE SECOND FORM's CARD OF 'laws.FnPeHeader'. -/
def fnPeHeaderUptoCard : Claim7 := { stood := { row := fnPeHeaderUptoRow, standIns := [], harness := (true, "afbc3d9b53cabbf19f531db935e895af00f349b0cd41efbcba43bb099750aa89"), looks := true }, kinds := [], alts := [], laidByText := true, laidKinds := [.sentinel, .sentinel, .sentinel], laidTests := true, laidLooks := .later }
def FnPeHeaderUptoCardSaid : Prop := Claim7.holds Tryd.pinned (.plain (OpenSpec.upto fnPeHeaderSpec)) fnPeHeaderUptoCard

/-- THE SECOND FORM's CARD OF 'laws.FnPeCoff'. -/
def fnPeCoffUptoCard : Claim7 := { stood := { row := fnPeCoffUptoRow, standIns := [], harness := (true, "afbc3d9b53cabbf19f531db935e895af00f349b0cd41efbcba43bb099750aa89"), looks := true }, kinds := [], alts := [], laidByText := true, laidKinds := [.sentinel, .sentinel, .sentinel], laidTests := true, laidLooks := .later }
def FnPeCoffUptoCardSaid : Prop := Claim7.holds Tryd.pinned (.plain (OpenSpec.upto fnPeCoffSpec)) fnPeCoffUptoCard

/-- THE SECOND FORM's CARD OF 'laws.FnPeSection'. -/
def fnPeSectionUptoCard : Claim7 := { stood := { row := fnPeSectionUptoRow, standIns := [], harness := (true, "afbc3d9b53cabbf19f531db935e895af00f349b0cd41efbcba43bb099750aa89"), looks := true }, kinds := [], alts := [], laidByText := true, laidKinds := [.sentinel, .sentinel, .sentinel], laidTests := true, laidLooks := .later }
def FnPeSectionUptoCardSaid : Prop := Claim7.holds Tryd.pinned (.plain (OpenSpec.upto fnPeSectionSpec)) fnPeSectionUptoCard

/-- THE SECOND FORM's CARD OF 'laws.FnPeAux'. -/
def fnPeAuxUptoCard : Claim7 := { stood := { row := fnPeAuxUptoRow, standIns := [], harness := (true, "afbc3d9b53cabbf19f531db935e895af00f349b0cd41efbcba43bb099750aa89"), looks := true }, kinds := [], alts := [], laidByText := true, laidKinds := [.sentinel, .sentinel, .sentinel], laidTests := true, laidLooks := .later }
def FnPeAuxUptoCardSaid : Prop := Claim7.holds Tryd.pinned (.plain (OpenSpec.upto fnPeAuxSpec)) fnPeAuxUptoCard

/-- THE SECOND FORM's CARD OF 'laws.FnPeRelocs'. -/
def fnPeRelocsUptoCard : Claim7 := { stood := { row := fnPeRelocsUptoRow, standIns := [], harness := (true, "afbc3d9b53cabbf19f531db935e895af00f349b0cd41efbcba43bb099750aa89"), looks := true }, kinds := [], alts := [], laidByText := true, laidKinds := [.sentinel, .sentinel, .sentinel], laidTests := true, laidLooks := .later }
def FnPeRelocsUptoCardSaid : Prop := Claim7.holds Tryd.pinned (.plain (OpenSpec.upto fnPeRelocsSpec)) fnPeRelocsUptoCard

/-- THE SECOND FORM's CARD OF 'laws.FnPeSymbols'. -/
def fnPeSymbolsUptoCard : Claim7 := { stood := { row := fnPeSymbolsUptoRow, standIns := [], harness := (true, "afbc3d9b53cabbf19f531db935e895af00f349b0cd41efbcba43bb099750aa89"), looks := true }, kinds := [], alts := [], laidByText := true, laidKinds := [.sentinel, .sentinel, .sentinel], laidTests := true, laidLooks := .later }
def FnPeSymbolsUptoCardSaid : Prop := Claim7.holds Tryd.pinned (.plain (OpenSpec.upto fnPeSymbolsSpec)) fnPeSymbolsUptoCard

/-- THE SECOND FORM's CARD OF 'laws.FnPeTexts'. -/
def fnPeTextsUptoCard : Claim7 := { stood := { row := fnPeTextsUptoRow, standIns := [], harness := (true, "afbc3d9b53cabbf19f531db935e895af00f349b0cd41efbcba43bb099750aa89"), looks := true }, kinds := [], alts := [], laidByText := true, laidKinds := [.sentinel, .sentinel, .sentinel], laidTests := true, laidLooks := .later }
def FnPeTextsUptoCardSaid : Prop := Claim7.holds Tryd.pinned (.plain (OpenSpec.upto fnPeTextsSpec)) fnPeTextsUptoCard
end Rows
end Go.Proofs.YthnlimhpnonnmaaDoorRRR
