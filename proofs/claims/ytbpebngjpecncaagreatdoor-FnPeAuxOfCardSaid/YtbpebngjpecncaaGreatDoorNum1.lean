/-
  A byte as a number.
-/
import Derived.Test.YtbpebngjpecncaaGreatDoorMem
namespace Go.Proofs.YtbpebngjpecncaaGreatDoor
set_option linter.unusedVariables false
set_option linter.unusedSimpArgs false
set_option maxRecDepth 100000
open Go Go.RowKit

theorem num1 (big : Bool) {w : World} {b : Nat} {l : List UInt8} (h : RB w (some ⟨b, 0, none⟩) l) (i : Nat) (hi : i < l.length) : w.cell? ⟨b, i, none⟩ = some (.int .u8 ((num big ((l.drop i).take 1) : Nat) : Int)) := by
  have e := h.at hi
  rw [Nat.zero_add] at e
  have e2 : (l.drop i).take 1 = [l[i]] := by rw [List.drop_eq_getElem_cons hi]; rfl
  rw [e, e2]
  cases big <;> simp [num, Lib.leNat, Lib.beNat_eq]
end Go.Proofs.YtbpebngjpecncaaGreatDoor
