/-
  The laws on texts: what they come to.
-/
import Derived.Test.YtcdknbclhdllkaaText
namespace Go.Proofs.Ytcdknbclhdllkaa
open Go Go.RowKit

set_option maxHeartbeats 400000 in
theorem law_FnMachoText (a0 : Option Addr) (len0 cap0 : Nat) (z0 : List Int) (w : World) (w0 : IsRow .u8 w a0 len0 cap0 z0) :
    Calls Try.prog 3 #[.slice a0 len0 cap0] w fun e w' => e = .returned (.bool true) ∧ Below w.heap.size w w' := by
  obtain ⟨l, hl, hr, hc, hm⟩ := w0.bytes
  have hN := Lib.hid hl
  clear hl w0
  by_cases hb : len0 ≤ 1048576
  · go_enter Try.func3, Try.ntmps3
    go_wp2_with fail
    refine (implText_any a0 l len0 cap0 hN.out (by omega) w hr).mono ?_
    rintro e w1 ⟨rfl, hb1⟩
    have hr1 := hr.later hb1
    go_wp2_with fail
    refine (specText_any a0 l len0 cap0 hN.out hc (by omega) w1 hr1).mono ?_
    rintro e w' ⟨rfl, rfl⟩
    go_wp2
    go_ret
    exact ⟨by simp, hb1⟩
  · go_enter Try.func3, Try.ntmps3
    go_wp2
    all_goals (go_ret; exact ⟨rfl, Below.refl _ _⟩)
end Go.Proofs.Ytcdknbclhdllkaa
