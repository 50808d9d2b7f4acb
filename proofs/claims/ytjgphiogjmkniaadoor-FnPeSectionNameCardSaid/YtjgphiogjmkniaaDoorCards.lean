/-
  DERIVED. GIVEN WITH THE SEED: THE CARDS: each row of YtjgphiogjmkniaaDoorRows.lean that lists a variable, with what it lists TIED to the program's text (the seventh form; the later family's looks); each row that meets fmt, with fmt's text TOLD by the authors' own Lean function (tested against real Go, not proved from fmt's source: count such statements apart). THE CARD IS WHAT COUNTS. Prove the row's statement (the work); the ties are given (YtjgphiogjmkniaaDoorTie.lean); close each card by the builder's one call (the guide's Derived/Test/ToyasCard.lean, 'card_holds'). Laid BY PROGRAM, IN A SANDBOX (cutbox-door.mjs). By AI agents, Wed Nov 11 2026. No macro, syntax, notation, axiom, sorry.
-/
import Derived.Test.YtjgphiogjmkniaaDoorRows
import GoSem.ClaimSeven
namespace Go.Proofs.YtjgphiogjmkniaaDoor
namespace Rows

/-- THE TIED CARD OF 'laws.FnPeSectionName'. -/
def fnPeSectionNameCard : Claim7 := { stood := { row := fnPeSectionNameRow, standIns := [], harness := (true, "ee605251047039c18eaa76f707eb27d213024665a01cf199e3c8f0d956742ca2"), looks := true }, kinds := [], alts := [], laidByText := true, laidKinds := [.data, .data, .data, .sentinel, .sentinel], laidTests := true, laidLooks := .later }
def FnPeSectionNameCardSaid : Prop := Claim7.holds Tryd.pinned (.plain (OpenSpec.ofChange fnPeSectionNameSpec)) fnPeSectionNameCard

/-- THE SECOND FORM's CARD OF 'laws.FnPeSectionName'. -/
def fnPeSectionNameUptoCard : Claim7 := { stood := { row := fnPeSectionNameUptoRow, standIns := [], harness := (true, "ee605251047039c18eaa76f707eb27d213024665a01cf199e3c8f0d956742ca2"), looks := true }, kinds := [], alts := [], laidByText := true, laidKinds := [.data, .data, .data, .sentinel, .sentinel], laidTests := true, laidLooks := .later }
def FnPeSectionNameUptoCardSaid : Prop := Claim7.holds Tryd.pinned (.plain (OpenSpec.upto fnPeSectionNameSpec)) fnPeSectionNameUptoCard
end Rows
end Go.Proofs.YtjgphiogjmkniaaDoor
