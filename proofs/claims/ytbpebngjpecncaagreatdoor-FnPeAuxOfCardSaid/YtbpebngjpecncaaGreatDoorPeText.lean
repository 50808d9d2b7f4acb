/-
  The contracts of the functions that read texts at places, and the law on them.
-/
import Derived.Test.YtbpebngjpecncaaGreatDoorText
namespace Go.Proofs.YtbpebngjpecncaaGreatDoor
set_option linter.unusedVariables false
set_option linter.unusedSimpArgs false
set_option maxRecDepth 100000
open Go Go.RowKit

theorem sizeByte : (info_parts Tryz.infoByte).choose.size = 1 := (info_parts Tryz.infoByte).choose_spec.2.2.1

/-- The text that begins at a place: none where no nought stands behind it. -/
def hasText (l : List UInt8) (s : Nat) : Bool := decide ((0 : UInt8) ∈ l.drop s)
def textAt (l : List UInt8) (s : Nat) : List UInt8 := if hasText l s then text (l.drop s) else []

theorem ret_two {a b : ByteArray} {x y : Bool} (h : a = b) (hx : x = y) : Ending.returned (.tuple #[.string a, .bool x]) = .returned (.tuple #[.string b, .bool y]) := by rw [h, hx]

end Go.Proofs.YtbpebngjpecncaaGreatDoor
