/-
  The contracts of the functions that read a text out of bytes.
-/
import Derived.Test.YtjgphiogjmkniaaDoorMem
import Derived.Test.YtjgphiogjmkniaaDoorProg
namespace Go.Proofs.YtjgphiogjmkniaaDoor
set_option linter.unusedVariables false
set_option linter.unusedSimpArgs false
open Go Go.RowKit

theorem Tryd.infoByte : (Tryd.prog.info? 5).map (fun i => (i.zero, i.size, i.bytes)) = some (some (.int .u8 0), 1, 1) := by kernel_rfl

theorem ret_str {a b : ByteArray} (h : a = b) : Ending.returned (.string a) = .returned (.string b) := by rw [h]

set_option maxHeartbeats 400000 in
theorem indexByte0 (A : Option Addr) (l : List UInt8) (n c : Nat) (hn : n = l.length) (w : World) (h : RB w A l) :
    Calls Tryd.prog 14 #[.slice A n c, .int .u8 0] w fun e w' => e = .returned (.int .i64 (Lib.indexByte l 0)) ∧ w = w' := by
  have hr := run_index0_RB (P := Tryd.prog) h n c hn
  clear hn
  go_enter Tryd.func14, Tryd.ntmps14
  go_wp2
  rw [run_callFunc_extern Tryd.func18 (by kernel_rfl) (by kernel_rfl) (by kernel_rfl) (e := Extern.BytealgIndexByte.indexByte) (by kernel_rfl), hr]
  simp only [Result.andThen]
  rw [Oper.upon_value]
  go_wp2
  go_ret
  exact ⟨rfl, rfl⟩

set_option maxRecDepth 100000 in
set_option maxHeartbeats 400000 in
theorem cstring_any (A : Option Addr) (l : List UInt8) (n c : Nat) (hn : n = l.length) (hc : n ≤ c) (w : World) (h : RB w A l) :
    Calls Tryd.prog 11 #[.slice A n c] w fun e w' => e = .returned (.string ⟨(text l).toArray⟩) ∧ w = w' := by
  have hN := Lib.hid hn
  by_cases h0 : (0 : UInt8) ∈ l
  · obtain ⟨h1, h2⟩ := index0_some l h0
    have hs := fun W => run_slice_0to (P := Tryd.prog) Tryd.underlying22 (info_parts Tryd.infoByte).choose_spec.1 A n c (text l).length (by omega) W
    have hs2 := fun W => run_slice_to (P := Tryd.prog) Tryd.underlying22 (info_parts Tryd.infoByte).choose_spec.1 A n c (text l).length (by omega) W
    have hcv := run_conv_RB (P := Tryd.prog) (w := w) Tryd.underlying22 Tryd.underlying5 Tryd.underlying9 (h.take (text l).length) (n := (text l).length) (c := c) (by simp; omega)
    rw [text_take] at hcv
    have H1 := Lib.hid h1
    have hne : (((text l).length : Int) == -1) = false := by rw [beq_eq_false_iff_ne]; omega
    clear hn h1
    generalize (text l).length = k at *
    go_enter Tryd.func11, Tryd.ntmps11
    go_wp2_with fail
    refine (indexByte0 A l n c hN.out w h).mono ?_
    rintro e w' ⟨rfl, rfl⟩
    rw [H1.out]
    go_wp2
    go_ret
    exact ⟨rfl, rfl⟩
  · obtain ⟨h1, h2⟩ := index0_none l h0
    have hs := fun W => run_slice_0to (P := Tryd.prog) Tryd.underlying22 (info_parts Tryd.infoByte).choose_spec.1 A n c n (by omega) W
    have hs2 := fun W => run_slice_to (P := Tryd.prog) Tryd.underlying22 (info_parts Tryd.infoByte).choose_spec.1 A n c n (by omega) W
    have hcv := run_conv_RB (P := Tryd.prog) (w := w) Tryd.underlying22 Tryd.underlying5 Tryd.underlying9 h (n := n) (c := c) hn
    have H1 := Lib.hid h1
    clear hn h1
    rw [h2]
    clear h2
    go_enter Tryd.func11, Tryd.ntmps11
    go_wp2_with fail
    refine (indexByte0 A l n c hN.out w h).mono ?_
    rintro e w' ⟨rfl, rfl⟩
    rw [H1.out]
    go_wp2
    go_ret
    exact ⟨rfl, rfl⟩

set_option maxHeartbeats 400000 in
/-- A copy of bytes: in a new place. -/
theorem copied_any (A : Option Addr) (l : List UInt8) (n c : Nat) (hn : n = l.length) (hb : n ≤ 2147483647) (w : World) (h : RB w A l) :
    Calls Tryd.prog 9 #[.slice A n c] w fun e w' => (∃ v, e = .returned v ∧ w'.ownsRow w.heap.size 5 1 v n (l.map bv)) ∧ Below w.heap.size w w' := by
  obtain ⟨i0, hi, hz0, hz1, hz2⟩ := info_parts Tryd.infoByte
  have hr := h.rc
  rw [← hn] at hr
  have hN := Lib.hid hn
  clear hn
  go_enter Tryd.func9, Tryd.ntmps9
  go_wp2_with (at_builtin; refine wpList_append_any rfl _ _ 22 rfl w.heap.size 5 i0 (.int .u8 0) 1 1 Tryd.underlying22 hi hz0 hz1 hz2 rfl (by omega) (.slice none 0 0) 0 [] rfl (World.ownsRow_nil _ _ _ _) A n c (l.map bv) rfl hr (bv_one l) (by simp only [maxLen]; omega) (by omega) (Nat.le_refl _) ?_; intro v1 w1 hown hg hat)
  go_ret
  refine ⟨⟨_, rfl, by simpa using hown⟩, (Below.refl _ _).grown hg (Nat.le_refl _) (by simp [Value.ownBlock])⟩

set_option maxHeartbeats 400000 in
theorem specText_any (A : Option Addr) (l : List UInt8) (n c : Nat) (hn : n = l.length) (hc : n ≤ c) (hb : n ≤ 2147483647) (w : World) (h : RB w A l) :
    Calls Tryd.prog 6 #[.slice A n c] w fun e w' => e = .returned (.string ⟨(text l).toArray⟩) ∧ w = w' := by
  have ht := text_le l
  have hcv := run_conv_RB (P := Tryd.prog) (w := w) Tryd.underlying22 Tryd.underlying5 Tryd.underlying9 h (n := n) (c := c) hn
  have hcv2 := run_conv_RB (P := Tryd.prog) (w := w) Tryd.underlying22 Tryd.underlying5 Tryd.underlying9 (h.take (text l).length) (n := (text l).length) (c := c) (by simp; omega)
  rw [text_take] at hcv2
  have hs := fun W => run_slice_to (P := Tryd.prog) Tryd.underlying22 (info_parts Tryd.infoByte).choose_spec.1 A n c (text l).length (by omega) W
  have hN := Lib.hid hn
  rw [← hn] at ht
  have H1 := Lib.hid hcv
  have H2 := Lib.hid hcv2
  clear hn hcv hcv2
  obtain ⟨T, hT⟩ : ∃ T, T = (text l).length := ⟨_, rfl⟩
  rw [← hT] at ht hs H2
  have HT := Lib.hid hT
  clear hT
  go_enter Tryd.func6, Tryd.ntmps6
  go_wp2
  go_loop [3, 4, 7] (fun _ _ i => ∃ j : Nat, j ≤ T ∧ i = .int .i64 j) (fun _ _ i => n - (intOf i).toNat)
  case atStart => exact ⟨0, Nat.zero_le _, rfl⟩
  case round =>
    obtain ⟨j, hj, rfl⟩ := hrel
    by_cases hjn : j < n
    · have hjl : j < l.length := by rw [← hN.out]; exact hjn
      obtain ⟨b, o, rfl⟩ := h.addr (by omega)
      have hcell := h.at hjl
      have hx := (l[j]).toNat_lt
      by_cases hjT : j < T
      · have hz := text_before l j (by rw [← HT.out]; exact hjT) hjl
        generalize l[j].toNat = x at *
        go_wp2
        go_round
        case rel => exact ⟨j + 1, by omega, by go_num⟩
        case measure => simp [intOf]; omega
      · obtain rfl : j = T := by omega
        have hz : (((l[j]).toNat : Int) == 0) = true := by
          have := HT.out
          have hh := text_at l (by omega)
          simpa [← this] using hh
        generalize l[j].toNat = x at *
        have hcv2 := H2.out
        go_wp2
        go_ret
        exact ⟨rfl, rfl⟩
    · obtain rfl : j = n := by omega
      have hcv := H1.out
      have htl : text l = l := by
        rw [← text_take, ← HT.out]
        exact List.take_of_length_le (by have := hN.out; omega)
      have E := Lib.hid (show (⟨l.toArray⟩ : ByteArray) = ⟨(text l).toArray⟩ by rw [htl])
      clear htl
      go_wp2
      go_ret
      exact ⟨ret_str E.out, rfl⟩
end Go.Proofs.YtjgphiogjmkniaaDoor
