/-
  DERIVED. GIVEN WITH THE SEED: THE CARDS: each row of YtmgmmdhaklokjaaDoorRows.lean that lists a variable, with what it lists TIED to the program's text (the seventh form; the later family's looks); each row that meets fmt, with fmt's text TOLD by the authors' own Lean function (tested against real Go, not proved from fmt's source: count such statements apart). THE CARD IS WHAT COUNTS. Prove the row's statement (the work); the ties are given (YtmgmmdhaklokjaaDoorTie.lean); close each card by the builder's one call (the guide's Derived/Test/ToyasCard.lean, 'card_holds'). Laid BY PROGRAM, IN A SANDBOX (cutbox-door.mjs). By AI agents, Wed Nov 11 2026. No macro, syntax, notation, axiom, sorry.
-/
import Derived.Test.YtmgmmdhaklokjaaDoorRows
import GoSem.ClaimSeven
namespace Go.Proofs.YtmgmmdhaklokjaaDoor
namespace Rows

/-- THE TIED CARD OF 'laws.FnMachoSymbols'. -/
def fnMachoSymbolsCard : Claim7 := { stood := { row := fnMachoSymbolsRow, standIns := [], harness := (true, "d982f48e9dcb48b78d4334fa94031c7b7b425b4686258743e04e98779b22c177"), looks := true }, kinds := [], alts := [], laidByText := true, laidKinds := [.sentinel, .sentinel, .sentinel], laidTests := true, laidLooks := .later }
def FnMachoSymbolsCardSaid : Prop := Claim7.holds Tryd.pinned (.plain (OpenSpec.ofChange fnMachoSymbolsSpec)) fnMachoSymbolsCard

/-- THE TIED CARD OF 'laws.FnMachoReloc'. -/
def fnMachoRelocCard : Claim7 := { stood := { row := fnMachoRelocRow, standIns := [], harness := (true, "d982f48e9dcb48b78d4334fa94031c7b7b425b4686258743e04e98779b22c177"), looks := true }, kinds := [], alts := [], laidByText := true, laidKinds := [.sentinel, .sentinel, .sentinel], laidTests := true, laidLooks := .later }
def FnMachoRelocCardSaid : Prop := Claim7.holds Tryd.pinned (.plain (OpenSpec.ofChange fnMachoRelocSpec)) fnMachoRelocCard

/-- THE TIED CARD OF 'laws.FnMachoRelocParts'. -/
def fnMachoRelocPartsCard : Claim7 := { stood := { row := fnMachoRelocPartsRow, standIns := [], harness := (true, "d982f48e9dcb48b78d4334fa94031c7b7b425b4686258743e04e98779b22c177"), looks := true }, kinds := [], alts := [], laidByText := true, laidKinds := [.sentinel, .sentinel, .sentinel], laidTests := true, laidLooks := .later }
def FnMachoRelocPartsCardSaid : Prop := Claim7.holds Tryd.pinned (.plain (OpenSpec.ofChange fnMachoRelocPartsSpec)) fnMachoRelocPartsCard

/-- THE TIED CARD OF 'laws.FnMachoRelocs'. -/
def fnMachoRelocsCard : Claim7 := { stood := { row := fnMachoRelocsRow, standIns := [], harness := (true, "d982f48e9dcb48b78d4334fa94031c7b7b425b4686258743e04e98779b22c177"), looks := true }, kinds := [], alts := [], laidByText := true, laidKinds := [.sentinel, .sentinel, .sentinel], laidTests := true, laidLooks := .later }
def FnMachoRelocsCardSaid : Prop := Claim7.holds Tryd.pinned (.plain (OpenSpec.ofChange fnMachoRelocsSpec)) fnMachoRelocsCard

/-- THE SECOND FORM's CARD OF 'laws.FnMachoSymbols'. -/
def fnMachoSymbolsUptoCard : Claim7 := { stood := { row := fnMachoSymbolsUptoRow, standIns := [], harness := (true, "d982f48e9dcb48b78d4334fa94031c7b7b425b4686258743e04e98779b22c177"), looks := true }, kinds := [], alts := [], laidByText := true, laidKinds := [.sentinel, .sentinel, .sentinel], laidTests := true, laidLooks := .later }
def FnMachoSymbolsUptoCardSaid : Prop := Claim7.holds Tryd.pinned (.plain (OpenSpec.upto fnMachoSymbolsSpec)) fnMachoSymbolsUptoCard

/-- THE SECOND FORM's CARD OF 'laws.FnMachoReloc'. -/
def fnMachoRelocUptoCard : Claim7 := { stood := { row := fnMachoRelocUptoRow, standIns := [], harness := (true, "d982f48e9dcb48b78d4334fa94031c7b7b425b4686258743e04e98779b22c177"), looks := true }, kinds := [], alts := [], laidByText := true, laidKinds := [.sentinel, .sentinel, .sentinel], laidTests := true, laidLooks := .later }
def FnMachoRelocUptoCardSaid : Prop := Claim7.holds Tryd.pinned (.plain (OpenSpec.upto fnMachoRelocSpec)) fnMachoRelocUptoCard

/-- THE SECOND FORM's CARD OF 'laws.FnMachoRelocParts'. -/
def fnMachoRelocPartsUptoCard : Claim7 := { stood := { row := fnMachoRelocPartsUptoRow, standIns := [], harness := (true, "d982f48e9dcb48b78d4334fa94031c7b7b425b4686258743e04e98779b22c177"), looks := true }, kinds := [], alts := [], laidByText := true, laidKinds := [.sentinel, .sentinel, .sentinel], laidTests := true, laidLooks := .later }
def FnMachoRelocPartsUptoCardSaid : Prop := Claim7.holds Tryd.pinned (.plain (OpenSpec.upto fnMachoRelocPartsSpec)) fnMachoRelocPartsUptoCard

/-- THE SECOND FORM's CARD OF 'laws.FnMachoRelocs'. -/
def fnMachoRelocsUptoCard : Claim7 := { stood := { row := fnMachoRelocsUptoRow, standIns := [], harness := (true, "d982f48e9dcb48b78d4334fa94031c7b7b425b4686258743e04e98779b22c177"), looks := true }, kinds := [], alts := [], laidByText := true, laidKinds := [.sentinel, .sentinel, .sentinel], laidTests := true, laidLooks := .later }
def FnMachoRelocsUptoCardSaid : Prop := Claim7.holds Tryd.pinned (.plain (OpenSpec.upto fnMachoRelocsSpec)) fnMachoRelocsUptoCard
end Rows
end Go.Proofs.YtmgmmdhaklokjaaDoor
