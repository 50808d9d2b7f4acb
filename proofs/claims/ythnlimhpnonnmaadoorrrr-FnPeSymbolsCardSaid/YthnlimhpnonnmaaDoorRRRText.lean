/-
  The contracts of the functions that read a text out of bytes.
-/
import Derived.Test.YthnlimhpnonnmaaDoorRRRMem
import Derived.Test.YthnlimhpnonnmaaDoorRRRProg
namespace Go.Proofs.YthnlimhpnonnmaaDoorRRR
set_option linter.unusedVariables false
set_option linter.unusedSimpArgs false
open Go Go.RowKit

theorem Tryd.infoByte : (Tryd.prog.info? 5).map (fun i => (i.zero, i.size, i.bytes)) = some (some (.int .u8 0), 1, 1) := by kernel_rfl

theorem ret_str {a b : ByteArray} (h : a = b) : Ending.returned (.string a) = .returned (.string b) := by rw [h]

set_option maxHeartbeats 400000 in
/-- A copy of bytes: in a new place. -/
theorem copied_any (A : Option Addr) (l : List UInt8) (n c : Nat) (hn : n = l.length) (hb : n ≤ 2147483647) (w : World) (h : RB w A l) :
    Calls Tryd.prog 29 #[.slice A n c] w fun e w' => (∃ v, e = .returned v ∧ w'.ownsRow w.heap.size 5 1 v n (l.map bv)) ∧ Below w.heap.size w w' := by
  obtain ⟨i0, hi, hz0, hz1, hz2⟩ := info_parts Tryd.infoByte
  have hr := h.rc
  rw [← hn] at hr
  have hN := Lib.hid hn
  clear hn
  go_enter Tryd.func29, Tryd.ntmps29
  go_wp2_with (at_builtin; refine wpList_append_any rfl _ _ 22 rfl w.heap.size 5 i0 (.int .u8 0) 1 1 Tryd.underlying22 hi hz0 hz1 hz2 rfl (by omega) (.slice none 0 0) 0 [] rfl (World.ownsRow_nil _ _ _ _) A n c (l.map bv) rfl hr (bv_one l) (by simp only [maxLen]; omega) (by omega) (Nat.le_refl _) ?_; intro v1 w1 hown hg hat)
  go_ret
  refine ⟨⟨_, rfl, by simpa using hown⟩, (Below.refl _ _).grown hg (Nat.le_refl _) (by simp [Value.ownBlock])⟩

end Go.Proofs.YthnlimhpnonnmaaDoorRRR
