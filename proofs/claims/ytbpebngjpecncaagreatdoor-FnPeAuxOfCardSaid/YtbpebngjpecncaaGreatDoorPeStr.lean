/-
  The contracts of the functions that read a text out of a table of texts, and the law on them.
-/
import Derived.Test.YtbpebngjpecncaaGreatDoorPeText
namespace Go.Proofs.YtbpebngjpecncaaGreatDoor
set_option linter.unusedVariables false
set_option linter.unusedSimpArgs false
set_option maxRecDepth 100000
open Go Go.RowKit

set_option maxHeartbeats 400000 in
theorem errorsNew (s : ByteArray) (w : World) : Calls Tryz.prog 30 #[.string s] w fun e w' => (∃ T v, e = .returned (.iface T v)) ∧ Below w.heap.size w w' := by
  go_enter Tryz.func30, Tryz.ntmps30
  go_wp2
  go_ret
  exact ⟨⟨_, _, rfl⟩, (Below.refl _ _).alloc (Nat.le_refl _) _⟩

set_option maxHeartbeats 400000 in
theorem tableString_ok (A : Option Addr) (l : List UInt8) (n c s : Nat) (hn : n = l.length) (hc : n ≤ c) (hb : n ≤ 2147483647) (h4 : 4 ≤ s) (hs : s - 4 ≤ n) (w : World) (h : RB w A l) :
    Calls Tryz.prog 55 #[.slice A n c, .int .u32 s] w fun e w' => e = .returned (.tuple #[.string ⟨(text (l.drop (s - 4))).toArray⟩, .nilIface]) ∧ w = w' := by
  obtain ⟨k, rfl⟩ : ∃ k, s = k + 4 := ⟨s - 4, by omega⟩
  have hk : k ≤ n := by omega
  clear h4 hs
  have hsl := fun W => run_slice_from (P := Tryz.prog) Tryz.underlying92 (info_parts Tryz.infoByte).choose_spec.1 sizeByte A n c k .u32 hk W
  have hr := h.drop (c := c) (by omega) k
  have hd : (l.drop k).length = n - k := by simp; omega
  have hD := Lib.hid hd
  clear hn hd h
  simp only [Nat.add_sub_cancel]
  go_enter Tryz.func55, Tryz.ntmps55
  go_wp2_with fail
  refine (cstring_any _ (l.drop k) _ _ hD.out.symm (by omega) w hr).mono ?_
  rintro e w' ⟨rfl, rfl⟩
  go_wp2
  go_ret2
  exact ⟨rfl, rfl⟩

set_option maxHeartbeats 400000 in
theorem tableString_bad (A : Option Addr) (n c s : Nat) (hb : n ≤ 2147483647) (hu : s ≤ 4294967295) (hs : s < 4 ∨ n < s - 4) (w : World) :
    Calls Tryz.prog 55 #[.slice A n c, .int .u32 s] w fun e w' => (∃ T v, e = .returned (.tuple #[.string ⟨#[]⟩, .iface T v])) ∧ Below w.heap.size w w' := by
  by_cases h4 : s < 4
  · go_enter Tryz.func55, Tryz.ntmps55
    go_wp2_with fail
    refine (errorsNew _ w).mono ?_
    rintro e w' ⟨⟨T, v, rfl⟩, hb1⟩
    go_wp2
    go_ret2
    exact ⟨⟨_, _, rfl⟩, hb1⟩
  · obtain ⟨k, rfl⟩ : ∃ k, s = k + 4 := ⟨s - 4, by omega⟩
    have hk : n < k := by omega
    clear hs
    go_enter Tryz.func55, Tryz.ntmps55
    go_wp2_with fail
    refine (errorsNew _ w).mono ?_
    rintro e w' ⟨⟨T, v, rfl⟩, hb1⟩
    go_wp2
    go_ret2
    exact ⟨⟨_, _, rfl⟩, hb1⟩

/-- Is there a text at this place of a table of so many bytes? -/
def strOk (n s : Nat) : Bool := decide (4 ≤ s ∧ s - 4 ≤ n)
def strAt (l : List UInt8) (s : Nat) : List UInt8 := if strOk l.length s then text (l.drop (s - 4)) else []
theorem strOk_yes {n s : Nat} (h : strOk n s = true) : 4 ≤ s ∧ s - 4 ≤ n := by simpa [strOk] using h
theorem strOk_no {n s : Nat} (h : strOk n s = false) : s < 4 ∨ n < s - 4 := by
  simp [strOk] at h
  omega

theorem bounds_u32 {n : Int} (h : (Lit.int .u32 n).wf = true) : 0 ≤ n ∧ n ≤ 4294967295 := by
  simp [Lit.wf, IntKind.min, IntKind.max, IntKind.signed, IntKind.bits] at h
  omega

end Go.Proofs.YtbpebngjpecncaaGreatDoor
