/-
  DERIVED. GIVEN WITH THE SEED: THE CARDS: each row of YtcdknbclhdllkaaDoorRows.lean that lists a variable, with what it lists TIED to the program's text (the seventh form; the later family's looks); each row that meets fmt, with fmt's text TOLD by the authors' own Lean function (tested against real Go, not proved from fmt's source: count such statements apart). THE CARD IS WHAT COUNTS. Prove the row's statement (the work); the ties are given (YtcdknbclhdllkaaDoorTie.lean); close each card by the builder's one call (the guide's Derived/Test/ToyasCard.lean, 'card_holds'). Laid BY PROGRAM, IN A SANDBOX (cutbox-door.mjs). By AI agents, Wed Nov 11 2026. No macro, syntax, notation, axiom, sorry.
-/
import Derived.Test.YtcdknbclhdllkaaDoorRows
import GoSem.ClaimSeven
namespace Go.Proofs.YtcdknbclhdllkaaDoor
namespace Rows

/-- THE TIED CARD OF 'laws.FnMachoRpathCmd'. -/
def fnMachoRpathCmdCard : Claim7 := { stood := { row := fnMachoRpathCmdRow, standIns := [], harness := (true, "16d70db16420ae6681cb0088271d8d718a3afe6a3664096a3c32b7ba3f2e3c84"), looks := true }, kinds := [], alts := [], laidByText := true, laidKinds := [.sentinel, .sentinel, .sentinel], laidTests := true, laidLooks := .later }
def FnMachoRpathCmdCardSaid : Prop := Claim7.holds Tryd.pinned (.plain (OpenSpec.ofChange fnMachoRpathCmdSpec)) fnMachoRpathCmdCard

/-- THE TIED CARD OF 'laws.FnMachoFatArch'. -/
def fnMachoFatArchCard : Claim7 := { stood := { row := fnMachoFatArchRow, standIns := [], harness := (true, "16d70db16420ae6681cb0088271d8d718a3afe6a3664096a3c32b7ba3f2e3c84"), looks := true }, kinds := [], alts := [], laidByText := true, laidKinds := [.sentinel, .sentinel, .sentinel], laidTests := true, laidLooks := .later }
def FnMachoFatArchCardSaid : Prop := Claim7.holds Tryd.pinned (.plain (OpenSpec.ofChange fnMachoFatArchSpec)) fnMachoFatArchCard

/-- THE TIED CARD OF 'laws.FnMachoDylibCmd'. -/
def fnMachoDylibCmdCard : Claim7 := { stood := { row := fnMachoDylibCmdRow, standIns := [], harness := (true, "16d70db16420ae6681cb0088271d8d718a3afe6a3664096a3c32b7ba3f2e3c84"), looks := true }, kinds := [], alts := [], laidByText := true, laidKinds := [.sentinel, .sentinel, .sentinel], laidTests := true, laidLooks := .later }
def FnMachoDylibCmdCardSaid : Prop := Claim7.holds Tryd.pinned (.plain (OpenSpec.ofChange fnMachoDylibCmdSpec)) fnMachoDylibCmdCard

/-- THE TIED CARD OF 'laws.FnMachoSymtabCmd'. -/
def fnMachoSymtabCmdCard : Claim7 := { stood := { row := fnMachoSymtabCmdRow, standIns := [], harness := (true, "16d70db16420ae6681cb0088271d8d718a3afe6a3664096a3c32b7ba3f2e3c84"), looks := true }, kinds := [], alts := [], laidByText := true, laidKinds := [.sentinel, .sentinel, .sentinel], laidTests := true, laidLooks := .later }
def FnMachoSymtabCmdCardSaid : Prop := Claim7.holds Tryd.pinned (.plain (OpenSpec.ofChange fnMachoSymtabCmdSpec)) fnMachoSymtabCmdCard

/-- THE TIED CARD OF 'laws.FnMachoHeader'. -/
def fnMachoHeaderCard : Claim7 := { stood := { row := fnMachoHeaderRow, standIns := [], harness := (true, "16d70db16420ae6681cb0088271d8d718a3afe6a3664096a3c32b7ba3f2e3c84"), looks := true }, kinds := [], alts := [], laidByText := true, laidKinds := [.sentinel, .sentinel, .sentinel], laidTests := true, laidLooks := .later }
def FnMachoHeaderCardSaid : Prop := Claim7.holds Tryd.pinned (.plain (OpenSpec.ofChange fnMachoHeaderSpec)) fnMachoHeaderCard

/-- THE TIED CARD OF 'laws.FnMachoDysymtabCmd'. -/
def fnMachoDysymtabCmdCard : Claim7 := { stood := { row := fnMachoDysymtabCmdRow, standIns := [], harness := (true, "16d70db16420ae6681cb0088271d8d718a3afe6a3664096a3c32b7ba3f2e3c84"), looks := true }, kinds := [], alts := [], laidByText := true, laidKinds := [.sentinel, .sentinel, .sentinel], laidTests := true, laidLooks := .later }
def FnMachoDysymtabCmdCardSaid : Prop := Claim7.holds Tryd.pinned (.plain (OpenSpec.ofChange fnMachoDysymtabCmdSpec)) fnMachoDysymtabCmdCard

/-- THE TIED CARD OF 'laws.FnMachoNlist'. -/
def fnMachoNlistCard : Claim7 := { stood := { row := fnMachoNlistRow, standIns := [], harness := (true, "16d70db16420ae6681cb0088271d8d718a3afe6a3664096a3c32b7ba3f2e3c84"), looks := true }, kinds := [], alts := [], laidByText := true, laidKinds := [.sentinel, .sentinel, .sentinel], laidTests := true, laidLooks := .later }
def FnMachoNlistCardSaid : Prop := Claim7.holds Tryd.pinned (.plain (OpenSpec.ofChange fnMachoNlistSpec)) fnMachoNlistCard

/-- THE TIED CARD OF 'laws.FnMachoSegment'. -/
def fnMachoSegmentCard : Claim7 := { stood := { row := fnMachoSegmentRow, standIns := [], harness := (true, "16d70db16420ae6681cb0088271d8d718a3afe6a3664096a3c32b7ba3f2e3c84"), looks := true }, kinds := [], alts := [], laidByText := true, laidKinds := [.sentinel, .sentinel, .sentinel], laidTests := true, laidLooks := .later }
def FnMachoSegmentCardSaid : Prop := Claim7.holds Tryd.pinned (.plain (OpenSpec.ofChange fnMachoSegmentSpec)) fnMachoSegmentCard

/-- THE TIED CARD OF 'laws.FnMachoSection'. -/
def fnMachoSectionCard : Claim7 := { stood := { row := fnMachoSectionRow, standIns := [], harness := (true, "16d70db16420ae6681cb0088271d8d718a3afe6a3664096a3c32b7ba3f2e3c84"), looks := true }, kinds := [], alts := [], laidByText := true, laidKinds := [.sentinel, .sentinel, .sentinel], laidTests := true, laidLooks := .later }
def FnMachoSectionCardSaid : Prop := Claim7.holds Tryd.pinned (.plain (OpenSpec.ofChange fnMachoSectionSpec)) fnMachoSectionCard

/-- THE SECOND FORM's CARD OF 'laws.FnMachoRpathCmd'. -/
def fnMachoRpathCmdUptoCard : Claim7 := { stood := { row := fnMachoRpathCmdUptoRow, standIns := [], harness := (true, "16d70db16420ae6681cb0088271d8d718a3afe6a3664096a3c32b7ba3f2e3c84"), looks := true }, kinds := [], alts := [], laidByText := true, laidKinds := [.sentinel, .sentinel, .sentinel], laidTests := true, laidLooks := .later }
def FnMachoRpathCmdUptoCardSaid : Prop := Claim7.holds Tryd.pinned (.plain (OpenSpec.upto fnMachoRpathCmdSpec)) fnMachoRpathCmdUptoCard

/-- THE SECOND FORM's CARD OF 'laws.FnMachoFatArch'. -/
def fnMachoFatArchUptoCard : Claim7 := { stood := { row := fnMachoFatArchUptoRow, standIns := [], harness := (true, "16d70db16420ae6681cb0088271d8d718a3afe6a3664096a3c32b7ba3f2e3c84"), looks := true }, kinds := [], alts := [], laidByText := true, laidKinds := [.sentinel, .sentinel, .sentinel], laidTests := true, laidLooks := .later }
def FnMachoFatArchUptoCardSaid : Prop := Claim7.holds Tryd.pinned (.plain (OpenSpec.upto fnMachoFatArchSpec)) fnMachoFatArchUptoCard

/-- THE SECOND FORM's CARD OF 'laws.FnMachoDylibCmd'. -/
def fnMachoDylibCmdUptoCard : Claim7 := { stood := { row := fnMachoDylibCmdUptoRow, standIns := [], harness := (true, "16d70db16420ae6681cb0088271d8d718a3afe6a3664096a3c32b7ba3f2e3c84"), looks := true }, kinds := [], alts := [], laidByText := true, laidKinds := [.sentinel, .sentinel, .sentinel], laidTests := true, laidLooks := .later }
def FnMachoDylibCmdUptoCardSaid : Prop := Claim7.holds Tryd.pinned (.plain (OpenSpec.upto fnMachoDylibCmdSpec)) fnMachoDylibCmdUptoCard

/-- THE SECOND FORM's CARD OF 'laws.FnMachoSymtabCmd'. -/
def fnMachoSymtabCmdUptoCard : Claim7 := { stood := { row := fnMachoSymtabCmdUptoRow, standIns := [], harness := (true, "16d70db16420ae6681cb0088271d8d718a3afe6a3664096a3c32b7ba3f2e3c84"), looks := true }, kinds := [], alts := [], laidByText := true, laidKinds := [.sentinel, .sentinel, .sentinel], laidTests := true, laidLooks := .later }
def FnMachoSymtabCmdUptoCardSaid : Prop := Claim7.holds Tryd.pinned (.plain (OpenSpec.upto fnMachoSymtabCmdSpec)) fnMachoSymtabCmdUptoCard

/-- THE SECOND FORM's CARD OF 'laws.FnMachoHeader'. -/
def fnMachoHeaderUptoCard : Claim7 := { stood := { row := fnMachoHeaderUptoRow, standIns := [], harness := (true, "16d70db16420ae6681cb0088271d8d718a3afe6a3664096a3c32b7ba3f2e3c84"), looks := true }, kinds := [], alts := [], laidByText := true, laidKinds := [.sentinel, .sentinel, .sentinel], laidTests := true, laidLooks := .later }
def FnMachoHeaderUptoCardSaid : Prop := Claim7.holds Tryd.pinned (.plain (OpenSpec.upto fnMachoHeaderSpec)) fnMachoHeaderUptoCard

/-- THE SECOND FORM's CARD OF 'laws.FnMachoDysymtabCmd'. -/
def fnMachoDysymtabCmdUptoCard : Claim7 := { stood := { row := fnMachoDysymtabCmdUptoRow, standIns := [], harness := (true, "16d70db16420ae6681cb0088271d8d718a3afe6a3664096a3c32b7ba3f2e3c84"), looks := true }, kinds := [], alts := [], laidByText := true, laidKinds := [.sentinel, .sentinel, .sentinel], laidTests := true, laidLooks := .later }
def FnMachoDysymtabCmdUptoCardSaid : Prop := Claim7.holds Tryd.pinned (.plain (OpenSpec.upto fnMachoDysymtabCmdSpec)) fnMachoDysymtabCmdUptoCard

/-- THE SECOND FORM's CARD OF 'laws.FnMachoNlist'. -/
def fnMachoNlistUptoCard : Claim7 := { stood := { row := fnMachoNlistUptoRow, standIns := [], harness := (true, "16d70db16420ae6681cb0088271d8d718a3afe6a3664096a3c32b7ba3f2e3c84"), looks := true }, kinds := [], alts := [], laidByText := true, laidKinds := [.sentinel, .sentinel, .sentinel], laidTests := true, laidLooks := .later }
def FnMachoNlistUptoCardSaid : Prop := Claim7.holds Tryd.pinned (.plain (OpenSpec.upto fnMachoNlistSpec)) fnMachoNlistUptoCard

/-- THE SECOND FORM's CARD OF 'laws.FnMachoSegment'. -/
def fnMachoSegmentUptoCard : Claim7 := { stood := { row := fnMachoSegmentUptoRow, standIns := [], harness := (true, "16d70db16420ae6681cb0088271d8d718a3afe6a3664096a3c32b7ba3f2e3c84"), looks := true }, kinds := [], alts := [], laidByText := true, laidKinds := [.sentinel, .sentinel, .sentinel], laidTests := true, laidLooks := .later }
def FnMachoSegmentUptoCardSaid : Prop := Claim7.holds Tryd.pinned (.plain (OpenSpec.upto fnMachoSegmentSpec)) fnMachoSegmentUptoCard

/-- THE SECOND FORM's CARD OF 'laws.FnMachoSection'. -/
def fnMachoSectionUptoCard : Claim7 := { stood := { row := fnMachoSectionUptoRow, standIns := [], harness := (true, "16d70db16420ae6681cb0088271d8d718a3afe6a3664096a3c32b7ba3f2e3c84"), looks := true }, kinds := [], alts := [], laidByText := true, laidKinds := [.sentinel, .sentinel, .sentinel], laidTests := true, laidLooks := .later }
def FnMachoSectionUptoCardSaid : Prop := Claim7.holds Tryd.pinned (.plain (OpenSpec.upto fnMachoSectionSpec)) fnMachoSectionUptoCard
end Rows
end Go.Proofs.YtcdknbclhdllkaaDoor
