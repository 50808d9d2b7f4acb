/-
  The widths of the header's fields.
-/
import Derived.Test.YtcdknbclhdllkaaDoorFours
namespace Go.Proofs.YtcdknbclhdllkaaDoor
set_option linter.unusedVariables false
set_option linter.unusedSimpArgs false
open Go Go.RowKit

set_option maxHeartbeats 400000 in
theorem machoHeader_any (w : World) :
    Calls Tryd.prog 20 #[] w fun e w' => (∃ v, e = .returned v ∧ w'.ownsRow w.heap.size 3 1 v 7 ((List.replicate 7 (4 : Int)).map iv)) ∧ Below w.heap.size w w' := by
  go_enter Tryd.func20, Tryd.ntmps20
  go_wp2_with fail
  refine (fours_any 7 (by omega) w).mono ?_
  rintro e w' ⟨⟨v, rfl, hown⟩, hb⟩
  go_wp2
  go_ret
  exact ⟨⟨_, rfl, hown⟩, hb⟩
end Go.Proofs.YtcdknbclhdllkaaDoor

