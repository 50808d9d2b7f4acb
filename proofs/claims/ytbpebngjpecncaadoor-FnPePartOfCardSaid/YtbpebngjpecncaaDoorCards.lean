/-
  DERIVED. GIVEN WITH THE SEED: THE CARDS: each row of YtbpebngjpecncaaDoorRows.lean that lists a variable, with what it lists TIED to the program's text (the seventh form; the later family's looks); each row that meets fmt, with fmt's text TOLD by the authors' own Lean function (tested against real Go, not proved from fmt's source: count such statements apart). THE CARD IS WHAT COUNTS. Prove the row's statement (the work); the ties are given (YtbpebngjpecncaaDoorTie.lean); close each card by the builder's one call (the guide's Derived/Test/ToyasCard.lean, 'card_holds'). Laid BY PROGRAM, IN A SANDBOX (cutbox-door.mjs). By AI agents, Wed Nov 11 2026. No macro, syntax, notation, axiom, sorry.
-/
import Derived.Test.YtbpebngjpecncaaDoorRows
import GoSem.ClaimSeven
namespace Go.Proofs.YtbpebngjpecncaaDoor
namespace Rows

/-- THE TIED CARD OF 'laws.FnPePartOf'. -/
def fnPePartOfCard : Claim7 := { stood := { row := fnPePartOfRow, standIns := [], harness := (true, "2128d1b126fe8884b5364f8694a9a6e907babd832654c3ad7da6856208c69deb"), looks := true }, kinds := [], alts := [], laidByText := true, laidKinds := [.data, .data, .data, .sentinel, .sentinel, .sentinel, .sentinel, .sentinel, .sentinel, .sentinel], laidTests := true, laidLooks := .later }
def FnPePartOfCardSaid : Prop := Claim7.holds Tryd.pinned (.plain (OpenSpec.ofChange fnPePartOfSpec)) fnPePartOfCard

/-- THE SECOND FORM's CARD OF 'laws.FnPePartOf'. -/
def fnPePartOfUptoCard : Claim7 := { stood := { row := fnPePartOfUptoRow, standIns := [], harness := (true, "2128d1b126fe8884b5364f8694a9a6e907babd832654c3ad7da6856208c69deb"), looks := true }, kinds := [], alts := [], laidByText := true, laidKinds := [.data, .data, .data, .sentinel, .sentinel, .sentinel, .sentinel, .sentinel, .sentinel, .sentinel], laidTests := true, laidLooks := .later }
def FnPePartOfUptoCardSaid : Prop := Claim7.holds Tryd.pinned (.plain (OpenSpec.upto fnPePartOfSpec)) fnPePartOfUptoCard
end Rows
end Go.Proofs.YtbpebngjpecncaaDoor
