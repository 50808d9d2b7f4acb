/-
  DERIVED. GIVEN WITH THE SEED: THE CARDS: each row of YtbpebngjpecncaaGreatDoorRows.lean that lists a variable, with what it lists TIED to the program's text (the seventh form; the later family's looks); each row that meets fmt, with fmt's text TOLD by the authors' own Lean function (tested against real Go, not proved from fmt's source: count such statements apart). THE CARD IS WHAT COUNTS. Prove the row's statement (the work); the ties are given (YtbpebngjpecncaaGreatDoorTie.lean); close each card by the builder's one call (the guide's Derived/Test/ToyasCard.lean, 'card_holds'). Laid BY PROGRAM, IN A SANDBOX (cutbox-door.mjs). By AI agents, Wed Nov 11 2026. No macro, syntax, notation, axiom, sorry.
-/
import Derived.Test.YtbpebngjpecncaaGreatDoorRows
import GoSem.ClaimSeven
namespace Go.Proofs.YtbpebngjpecncaaGreatDoor
namespace Rows

/-- THE TIED CARD OF 'laws.FnPeAuxOf'. -/
def fnPeAuxOfCard : Claim7 := { stood := { row := fnPeAuxOfRow, standIns := [], harness := (true, "0c31d5b6cebf69ea121ba5bf5f14f51628023c584880ee17f93e07d9db377d54"), looks := true }, kinds := [], alts := [], laidByText := true, laidKinds := [.data, .data, .data, .sentinel, .sentinel, .sentinel, .sentinel, .sentinel, .sentinel, .sentinel], laidTests := true, laidLooks := .later }
def FnPeAuxOfCardSaid : Prop := Claim7.holds Tryz.pinned (.plain (OpenSpec.ofChange fnPeAuxOfSpec)) fnPeAuxOfCard

/-- THE SECOND FORM's CARD OF 'laws.FnPeAuxOf'. -/
def fnPeAuxOfUptoCard : Claim7 := { stood := { row := fnPeAuxOfUptoRow, standIns := [], harness := (true, "0c31d5b6cebf69ea121ba5bf5f14f51628023c584880ee17f93e07d9db377d54"), looks := true }, kinds := [], alts := [], laidByText := true, laidKinds := [.data, .data, .data, .sentinel, .sentinel, .sentinel, .sentinel, .sentinel, .sentinel, .sentinel], laidTests := true, laidLooks := .later }
def FnPeAuxOfUptoCardSaid : Prop := Claim7.holds Tryz.pinned (.plain (OpenSpec.upto fnPeAuxOfSpec)) fnPeAuxOfUptoCard
end Rows
end Go.Proofs.YtbpebngjpecncaaGreatDoor
