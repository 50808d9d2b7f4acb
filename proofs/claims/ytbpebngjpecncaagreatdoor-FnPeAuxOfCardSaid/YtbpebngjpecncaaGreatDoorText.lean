/-
  The contracts of the functions that read a text out of bytes.
-/
import Derived.Test.YtbpebngjpecncaaGreatDoorMem
import Derived.Test.YtbpebngjpecncaaGreatDoorProg
namespace Go.Proofs.YtbpebngjpecncaaGreatDoor
set_option linter.unusedVariables false
set_option linter.unusedSimpArgs false
set_option maxRecDepth 100000
open Go Go.RowKit

theorem Tryz.infoByte : (Tryz.prog.info? 5).map (fun i => (i.zero, i.size, i.bytes)) = some (some (.int .u8 0), 1, 1) := by kernel_rfl

theorem ret_str {a b : ByteArray} (h : a = b) : Ending.returned (.string a) = .returned (.string b) := by rw [h]

set_option maxHeartbeats 400000 in
theorem indexByte0 (A : Option Addr) (l : List UInt8) (n c : Nat) (hn : n = l.length) (w : World) (h : RB w A l) :
    Calls Tryz.prog 61 #[.slice A n c, .int .u8 0] w fun e w' => e = .returned (.int .i64 (Lib.indexByte l 0)) ∧ w = w' := by
  have hr := run_index0_RB (P := Tryz.prog) h n c hn
  clear hn
  go_enter Tryz.func61, Tryz.ntmps61
  go_wp2
  rw [run_callFunc_extern Tryz.func66 (by kernel_rfl) (by kernel_rfl) (by kernel_rfl) (e := Extern.BytealgIndexByte.indexByte) (by kernel_rfl), hr]
  simp only [Result.andThen]
  rw [Oper.upon_value]
  go_wp2
  go_ret
  exact ⟨rfl, rfl⟩

set_option maxRecDepth 100000 in
set_option maxHeartbeats 400000 in
theorem cstring_any (A : Option Addr) (l : List UInt8) (n c : Nat) (hn : n = l.length) (hc : n ≤ c) (w : World) (h : RB w A l) :
    Calls Tryz.prog 53 #[.slice A n c] w fun e w' => e = .returned (.string ⟨(text l).toArray⟩) ∧ w = w' := by
  have hN := Lib.hid hn
  by_cases h0 : (0 : UInt8) ∈ l
  · obtain ⟨h1, h2⟩ := index0_some l h0
    have hs := fun W => run_slice_0to (P := Tryz.prog) Tryz.underlying34 (info_parts Tryz.infoByte).choose_spec.1 A n c (text l).length (by omega) W
    have hs2 := fun W => run_slice_to (P := Tryz.prog) Tryz.underlying34 (info_parts Tryz.infoByte).choose_spec.1 A n c (text l).length (by omega) W
    have hcv := run_conv_RB (P := Tryz.prog) (w := w) Tryz.underlying34 Tryz.underlying5 Tryz.underlying9 (h.take (text l).length) (n := (text l).length) (c := c) (by simp; omega)
    rw [text_take] at hcv
    have H1 := Lib.hid h1
    have hne : (((text l).length : Int) == -1) = false := by rw [beq_eq_false_iff_ne]; omega
    clear hn h1
    generalize (text l).length = k at *
    go_enter Tryz.func53, Tryz.ntmps53
    go_wp2_with fail
    refine (indexByte0 A l n c hN.out w h).mono ?_
    rintro e w' ⟨rfl, rfl⟩
    rw [H1.out]
    go_wp2
    go_ret
    exact ⟨rfl, rfl⟩
  · obtain ⟨h1, h2⟩ := index0_none l h0
    have hs := fun W => run_slice_0to (P := Tryz.prog) Tryz.underlying34 (info_parts Tryz.infoByte).choose_spec.1 A n c n (by omega) W
    have hs2 := fun W => run_slice_to (P := Tryz.prog) Tryz.underlying34 (info_parts Tryz.infoByte).choose_spec.1 A n c n (by omega) W
    have hcv := run_conv_RB (P := Tryz.prog) (w := w) Tryz.underlying34 Tryz.underlying5 Tryz.underlying9 h (n := n) (c := c) hn
    have H1 := Lib.hid h1
    clear hn h1
    rw [h2]
    clear h2
    go_enter Tryz.func53, Tryz.ntmps53
    go_wp2_with fail
    refine (indexByte0 A l n c hN.out w h).mono ?_
    rintro e w' ⟨rfl, rfl⟩
    rw [H1.out]
    go_wp2
    go_ret
    exact ⟨rfl, rfl⟩

set_option maxHeartbeats 400000 in
/-- A copy of bytes: in a new place. -/
theorem copied_any (A : Option Addr) (l : List UInt8) (n c : Nat) (hn : n = l.length) (hb : n ≤ 2147483647) (w : World) (h : RB w A l) :
    Calls Tryz.prog 23 #[.slice A n c] w fun e w' => (∃ v, e = .returned v ∧ w'.ownsRow w.heap.size 5 1 v n (l.map bv)) ∧ Below w.heap.size w w' := by
  obtain ⟨i0, hi, hz0, hz1, hz2⟩ := info_parts Tryz.infoByte
  have hr := h.rc
  rw [← hn] at hr
  have hN := Lib.hid hn
  clear hn
  go_enter Tryz.func23, Tryz.ntmps23
  go_wp2_with (at_builtin; refine wpList_append_any rfl _ _ 34 rfl w.heap.size 5 i0 (.int .u8 0) 1 1 Tryz.underlying34 hi hz0 hz1 hz2 rfl (by omega) (.slice none 0 0) 0 [] rfl (World.ownsRow_nil _ _ _ _) A n c (l.map bv) rfl hr (bv_one l) (by simp only [maxLen]; omega) (by omega) (Nat.le_refl _) ?_; intro v1 w1 hown hg hat)
  go_ret
  refine ⟨⟨_, rfl, by simpa using hown⟩, (Below.refl _ _).grown hg (Nat.le_refl _) (by simp [Value.ownBlock])⟩

end Go.Proofs.YtbpebngjpecncaaGreatDoor
