/-
  The reference's numbers where there are bytes enough.
-/
import Derived.Test.YtmgmmdhaklokjaaDoorGen
import Derived.Test.YtmgmmdhaklokjaaDoorStep
namespace Go.Proofs.YtmgmmdhaklokjaaDoor
set_option linter.unusedVariables false
set_option linter.unusedSimpArgs false
open Go Go.RowKit

/-- The reference's numbers where there are bytes enough. -/
theorem fields_ok (big : Bool) (A Bs : Option Addr) (l : List UInt8) (ws : List Int) (n c m d : Nat) (hn : Hid (n = l.length)) (hc : n ≤ c) (hb : n ≤ 2147483647) (hm : Hid (m = ws.length)) (hm1 : m ≤ 1000) (hws : Hid (∀ x ∈ ws, -1000 ≤ x ∧ x ≤ 8)) (w : World) (hA : Hid (RB w A l)) (hW : Hid (RC w Bs 1 m (ws.map iv))) (hZ : Hid (widthOf ws ≤ l.length)) (K : Nat) (hK : Hid ((numsOf big ws l).length = K)) :
    Calls Tryd.prog 20 #[.bool big, .slice Bs m d, .slice A n c] w fun e w' => (∃ B d', e = .returned (.tuple #[.slice B K d', .bool true]) ∧ Hid (RT w' 31 B 1 K ((numsOf big ws l).map uv))) ∧ Below w.heap.size w w' := by
  refine (fields_any big A Bs l ws n c m d hn hc hb hm hm1 hws w hA hW).mono ?_
  have hf := fieldsOf_all big ws l
  rw [if_neg (by have := hZ.out; omega)] at hf
  rintro e w' ⟨h | ⟨r, v, e3, rfl, own⟩, hbl⟩
  · rw [hf] at h; cases h.1
  · obtain rfl := Option.some.inj (hf.symm.trans e3)
    obtain ⟨B, d', rfl, hR, -, -⟩ := RT.of_owns own
    rw [hK.out] at hR ⊢
    exact ⟨⟨B, d', rfl, Lib.hid hR⟩, hbl⟩
end Go.Proofs.YtmgmmdhaklokjaaDoor
