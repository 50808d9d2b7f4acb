/-
  The bytes of a name, one by one.
-/
import Derived.Test.YtbpebngjpecncaaGreatDoorMem
namespace Go.Proofs.YtbpebngjpecncaaGreatDoor
set_option linter.unusedVariables false
set_option linter.unusedSimpArgs false
set_option maxRecDepth 100000
open Go Go.RowKit

theorem name16 {α : Type} : ∀ {l : List α} (_ : l.length = 16), ∃ y0 y1 y2 y3 y4 y5 y6 y7 y8 y9 y10 y11 y12 y13 y14 y15, l = [y0, y1, y2, y3, y4, y5, y6, y7, y8, y9, y10, y11, y12, y13, y14, y15]
  | [y0, y1, y2, y3, y4, y5, y6, y7, y8, y9, y10, y11, y12, y13, y14, y15], _ => ⟨y0, y1, y2, y3, y4, y5, y6, y7, y8, y9, y10, y11, y12, y13, y14, y15, rfl⟩
theorem name8 {α : Type} : ∀ {l : List α} (_ : l.length = 8), ∃ y0 y1 y2 y3 y4 y5 y6 y7, l = [y0, y1, y2, y3, y4, y5, y6, y7]
  | [y0, y1, y2, y3, y4, y5, y6, y7], _ => ⟨y0, y1, y2, y3, y4, y5, y6, y7, rfl⟩

theorem all_bv (l : List UInt8) : (l.map bv).all (·.oneCell') = true := List.all_eq_true.2 (bv_one l)

/-- Bytes in the midst of a row. -/
theorem RB.of_mid {w : World} {g : Nat} {row pre post : List Value} {T : TypeId} {fr : Nat × Nat} {l : List UInt8} (h : w.heap[g]? = some (.cells row.toArray T fr)) (e : row = pre ++ (l.map bv ++ post)) (o : Nat) (ho : pre.length = o) : RB w (some ⟨g, o, none⟩) l :=
  .inr ⟨g, o, rfl, fun i hi => by
    subst ho
    subst e
    rw [cell_of_row w g (pre.length + i) _ _ _ h, List.getElem?_toArray, List.getElem?_append_right (by omega), Nat.add_sub_cancel_left, List.getElem?_append_left (by simpa using hi)]
    simp [bv, hi]⟩

/-- A cell in the midst of a row; one stored there. -/
theorem cell_mid {w : World} {V o : Nat} {pre xs post : List Value} {TV : TypeId} {fr : Nat × Nat} {v : Value} (hO : Hid (pre.length = o)) (hV : Hid (w.heap[V]? = some (.cells (pre ++ (xs ++ post)).toArray TV fr))) (i : Nat) (hx : xs[i]? = some v) : w.cell? ⟨V, o + i, none⟩ = some v := by
  have ho := hO.out
  subst ho
  rw [cell_of_row w V (pre.length + i) _ _ _ hV.out]
  have hi := (List.getElem?_eq_some_iff.1 hx).1
  rw [List.getElem?_toArray, List.getElem?_append_right (by omega), Nat.add_sub_cancel_left, List.getElem?_append_left hi]
  exact hx
theorem set_mid {w : World} {V o i : Nat} {pre xs post : List Value} {TV : TypeId} {fr : Nat × Nat} {x : Value} (hO : Hid (pre.length = o)) (hi : i < xs.length)
    (hV : Hid (w.heap[V]? = some (.cells ((pre ++ (xs ++ post)).toArray.setIfInBounds (o + i) x) TV fr))) : Hid (w.heap[V]? = some (.cells (pre ++ (xs.set i x ++ post)).toArray TV fr)) := by
  have ho := hO.out
  subst ho
  have h := hV.out
  rw [List.setIfInBounds_toArray, List.set_append_right _ _ (by omega), Nat.add_sub_cancel_left, List.set_append_left _ _ hi] at h
  exact Lib.hid h
end Go.Proofs.YtbpebngjpecncaaGreatDoor
