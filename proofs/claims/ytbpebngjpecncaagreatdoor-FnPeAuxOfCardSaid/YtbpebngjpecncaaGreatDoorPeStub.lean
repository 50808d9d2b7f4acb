/-
  The stub of a PE file, as a row that is filled. No program in sight but the making of a row of noughts.
  Names put at the front of bytes, figures: the contracts of named and figures; the widths of the structs.
-/
import Derived.Test.YtbpebngjpecncaaGreatDoorPeMade
import Derived.Test.YtbpebngjpecncaaGreatDoorSeekP
import Derived.Test.YtbpebngjpecncaaGreatDoorSpecRow
import Derived.Lib.BufferWrite
namespace Go.Proofs.YtbpebngjpecncaaGreatDoor
set_option linter.unusedVariables false
set_option linter.unusedSimpArgs false
set_option maxRecDepth 100000
open Go Go.RowKit

theorem makeZeros (Z : Nat) (hZ : Z ≤ 1073741824) : ∀ w, (Instr.makeSlice 34 (.int .i64 (Z : Int)) (.int .i64 (Z : Int))).run Tryz.prog w = .ok (.slice (some ⟨w.heap.size, 0, none⟩) Z Z) (w.alloc (.cells ((List.replicate Z (0 : UInt8)).map bv).toArray 5)) := by
  obtain ⟨i0, hi, hz0, hz1, hz2⟩ := info_parts Tryz.infoByte
  intro w
  have hr := run_make (P := Tryz.prog) w 34 5 i0 (.int .u8 0) Tryz.underlying34 hi hz0 .i64 .i64 Z Z (by omega) (by omega) (by rw [hz2]; omega) (by omega)
  have hf := made_flat (Value.cells (.int .u8 0)) Z
  have h1 : (Value.cells (.int .u8 0)).size = 1 := rfl
  rw [h1] at hf
  rw [hz1] at hr
  have e : madeCells (Value.cells (.int .u8 0)) (Z * 1) = ((List.replicate Z (0 : UInt8)).map bv).toArray := by
    apply Array.toList_inj.1
    rw [hf, List.toList_toArray, List.map_replicate]
    have : (Value.cells (.int .u8 0)).toList = [bv 0] := rfl
    rw [this]
    clear hr hf
    induction Z with
    | zero => rfl
    | succ n ih => rw [List.replicate_succ, List.flatten_cons, ih (by omega)]; rfl
  simp only [Int.toNat_natCast, e] at hr
  exact hr

theorem stub_row (Z : Nat) (h : 64 ≤ Z) :
    splice ((((List.replicate Z (0 : UInt8)).map bv).set 0 (.int .u8 77)).set 1 (.int .u8 90)) 60 (((le 4 Z).take (Z - 60)).map bv) = (stubB Z).map bv := by
  obtain ⟨d, rfl⟩ : ∃ d, Z = 64 + d := ⟨Z - 64, by omega⟩
  rw [List.take_of_length_le (by rw [le_len]; omega)]
  have e : List.replicate (64 + d) (0 : UInt8) = List.replicate 60 0 ++ (List.replicate 4 0 ++ List.replicate d 0) := by
    rw [List.replicate_append_replicate, List.replicate_append_replicate]
    congr 1
    omega
  have e2 : (((List.replicate (64 + d) (0 : UInt8)).map bv).set 0 (.int .u8 77)).set 1 (.int .u8 90) = (([77, 90] ++ List.replicate 58 (0 : UInt8)).map bv) ++ (((List.replicate 4 (0 : UInt8)).map bv) ++ ((List.replicate d (0 : UInt8)).map bv)) := by
    rw [e, List.map_append, List.map_append]
    rfl
  have h60 : (([77, 90] ++ List.replicate 58 (0 : UInt8)).map bv).length = 60 := rfl
  unfold splice
  have h4 : ((List.replicate 4 (0 : UInt8)).map bv).length = 4 := rfl
  rw [e2, List.take_left' h60, List.length_map, le_len, ← List.drop_drop, List.drop_left' h60, List.drop_left' h4, ← List.map_append, ← List.map_append]
  unfold stubB
  rw [Nat.add_sub_cancel_left, List.append_assoc]

open Go Go.RowKit
attribute [local go_sem ↓] Go.wp_at_zero Go.wp_at_succ

theorem splice_front (cur : List Value) (l s : List UInt8) (n : Nat) (hb : l.length = n) (hs : s.length ≤ n) (ht : cur.take n = l.map bv) : (s.map bv ++ cur.drop s.length).take n = (s ++ l.drop s.length).map bv := by
  rw [List.take_append, List.take_of_length_le (by simpa using hs), List.length_map, ← List.drop_take, ht, List.map_append, List.map_drop]

set_option maxHeartbeats 1000000 in
/-- A name is put at the front. -/
theorem named_any (g n cap base : Nat) (l : List UInt8) (s : ByteArray) (w : World) (hown : Hid (w.ownsRow base 5 1 (.slice (some ⟨g, 0, none⟩) n cap) n (l.map bv))) (hs : s.size ≤ n) (hn : 0 < n) :
    Calls Tryz.prog 16 #[.slice (some ⟨g, 0, none⟩) n cap, .int .i64 0, .string s] w fun e w' => e = .returned (.slice (some ⟨g, 0, none⟩) n cap) ∧
      Hid (w'.ownsRow base 5 1 (.slice (some ⟨g, 0, none⟩) n cap) n ((s.data.toList ++ l.drop s.size).map bv)) ∧ Chg (· = g) w w' ∧ w'.heap.size = w.heap.size := by
  obtain ⟨hl, h | ⟨g', cap', cur, hv, hbg, hg, hnc, hcm, hcs, htake⟩⟩ := hown.out
  · simp at h
  simp only [Value.slice.injEq, Option.some.injEq, Addr.mk.injEq, and_true] at hv
  obtain ⟨rfl, -, rfl⟩ := hv
  have hss : s.data.toList.length = s.size := by simp
  have hcp := Lib.run_copy_row_string (P := Tryz.prog) w 34 9 3 5 g 0 n cap s cur 5 Tryz.underlying34 (by kernel_rfl) hg hs (by omega)
  obtain ⟨w2, e2⟩ : ∃ w2, w.setRow g (cur.toList.take 0 ++ Lib.byteCells s.data.toList ++ cur.toList.drop (0 + s.size)).toArray = w2 := ⟨_, rfl⟩
  rw [e2] at hcp
  have hC : Chg (· = g) w w2 := by rw [← e2]; exact ⟨rfl, rfl, rfl, by simp, fun k hk hk' => setRow_other _ _ k _ hk'⟩
  have hsz : w2.heap.size = w.heap.size := by rw [← e2]; simp
  have hbl : l.length = n := by simpa using hl
  have hown2 : w2.ownsRow base 5 1 (.slice (some ⟨g, 0, none⟩) n cap) n ((s.data.toList ++ l.drop s.size).map bv) := by
    refine ⟨by simp; omega, .inr ⟨g, cap, _, rfl, hbg, (by rw [← e2]; exact setRow_heap w g cur _ _ _ hg), hnc, hcm, ?_, ?_⟩⟩
    · simp [Lib.byteCells]; omega
    · have h := splice_front cur.toList l s.data.toList n hbl (by omega) (by simpa using htake)
      rw [hss] at h
      have e3 : Lib.byteCells s.data.toList = s.data.toList.map bv := rfl
      rw [e3]
      simpa using h
  replace hown2 := Lib.hid hown2
  replace hC := Lib.hid hC
  replace hsz := Lib.hid hsz
  have hcp2 : (Builtin.copy_ #[34, 9] 3 #[.slice (some ⟨g, 0, none⟩) n cap, .string s]).run Tryz.prog w = .ok (.int .i64 (s.size : Int)) w2 := hcp
  clear hown hcp e2 hl htake hcs hss hbl
  go_enter Tryz.func16, Tryz.ntmps16
  go_wp2
  go_ret
  exact ⟨rfl, hown2, hC.out, hsz.out⟩
/-- The text of a figure. -/
def digS (n : Nat) : ByteArray := ⟨#[UInt8.ofNat (48 + n)]⟩
theorem rune0 (w : World) : (convert 21 9 (.int .i32 48)).run Tryz.prog w = .ok (.string (digS 0)) w := by kernel_rfl
theorem rune1 (w : World) : (convert 21 9 (.int .i32 49)).run Tryz.prog w = .ok (.string (digS 1)) w := by kernel_rfl
theorem rune2 (w : World) : (convert 21 9 (.int .i32 50)).run Tryz.prog w = .ok (.string (digS 2)) w := by kernel_rfl
theorem rune3 (w : World) : (convert 21 9 (.int .i32 51)).run Tryz.prog w = .ok (.string (digS 3)) w := by kernel_rfl
theorem rune4 (w : World) : (convert 21 9 (.int .i32 52)).run Tryz.prog w = .ok (.string (digS 4)) w := by kernel_rfl
theorem rune5 (w : World) : (convert 21 9 (.int .i32 53)).run Tryz.prog w = .ok (.string (digS 5)) w := by kernel_rfl
theorem rune6 (w : World) : (convert 21 9 (.int .i32 54)).run Tryz.prog w = .ok (.string (digS 6)) w := by kernel_rfl
theorem rune7 (w : World) : (convert 21 9 (.int .i32 55)).run Tryz.prog w = .ok (.string (digS 7)) w := by kernel_rfl
theorem rune8 (w : World) : (convert 21 9 (.int .i32 56)).run Tryz.prog w = .ok (.string (digS 8)) w := by kernel_rfl
theorem rune9 (w : World) : (convert 21 9 (.int .i32 57)).run Tryz.prog w = .ok (.string (digS 9)) w := by kernel_rfl
theorem rune_string (n : Nat) (hn : n < 10) (w : World) : (convert 21 9 (.int .i32 (48 + (n : Int)))).run Tryz.prog w = .ok (.string (digS n)) w := by
  have h : n = 0 ∨ n = 1 ∨ n = 2 ∨ n = 3 ∨ n = 4 ∨ n = 5 ∨ n = 6 ∨ n = 7 ∨ n = 8 ∨ n = 9 := by omega
  rcases h with rfl | rfl | rfl | rfl | rfl | rfl | rfl | rfl | rfl | rfl
  · exact rune0 w
  · exact rune1 w
  · exact rune2 w
  · exact rune3 w
  · exact rune4 w
  · exact rune5 w
  · exact rune6 w
  · exact rune7 w
  · exact rune8 w
  · exact rune9 w

set_option maxHeartbeats 1000000 in
theorem figures_small (n : Nat) (hn : n < 10) (w : World) : Calls Tryz.prog 15 #[.int .i64 n] w fun e w' => e = .returned (.string ⟨(figs n).toArray⟩) ∧ w = w' := by
  have hr := fun W => rune_string n hn W
  have hf : Hid (digS n = ⟨(figs n).toArray⟩) := Lib.hid (by rw [figs_small hn]; rfl)
  have hlt : (n : Int) < 10 := by omega
  go_enter Tryz.func15, Tryz.ntmps15
  go_wp2
  go_ret
  exact ⟨ret_str hf.out, rfl⟩

theorem figs_lenN : ∀ n : Nat, (figs n).length ≤ n + 1
  | n => by
    by_cases h : n < 10
    · rw [figs_small h]; simp
    · rw [figs_big h]
      have := figs_lenN (n / 10)
      simp
      omega
termination_by n => n
decreasing_by omega

set_option maxHeartbeats 1000000 in
theorem figures_step (n : Nat) (hn : ¬ n < 10) (hb : n ≤ 100000) (w : World) (ih : Hid (Calls Tryz.prog 15 #[.int .i64 (n / 10 : Nat)] w fun e w' => e = .returned (.string ⟨(figs (n / 10)).toArray⟩) ∧ w = w')) :
    Calls Tryz.prog 15 #[.int .i64 n] w fun e w' => e = .returned (.string ⟨(figs n).toArray⟩) ∧ w = w' := by
  have hr := fun W => rune_string (n % 10) (by omega) W
  have hf : Hid ((⟨(figs (n / 10)).toArray⟩ : ByteArray) ++ digS (n % 10) = ⟨(figs n).toArray⟩) := Lib.hid (by
    rw [figs_big hn]
    unfold digS
    apply ByteArray.ext
    simp)
  have hsz : ¬ 9223372036854775807 < (figs (n / 10)).length + (digS (n % 10)).size := by
    have h1 := figs_lenN (n / 10)
    have h2 : (digS (n % 10)).size = 1 := rfl
    omega
  have hlt : ¬ (n : Int) < 10 := by omega
  have h10 : ((n / 10 : Nat) : Int) = (n : Int) / 10 := by omega
  have h11 : ((n % 10 : Nat) : Int) = (n : Int) % 10 := by omega
  rw [h10] at ih
  simp only [h11] at hr
  clear h10 h11
  go_enter Tryz.func15, Tryz.ntmps15
  go_wp2_with fail
  refine ih.out.mono ?_
  rintro e w' ⟨rfl, rfl⟩
  go_wp2
  go_ret
  exact ⟨ret_str hf.out, rfl⟩

theorem figures_any : ∀ (n : Nat) (_ : n ≤ 100000) (w : World), Calls Tryz.prog 15 #[.int .i64 n] w fun e w' => e = .returned (.string ⟨(figs n).toArray⟩) ∧ w = w'
  | n, hb, w => by
    by_cases h : n < 10
    · exact figures_small n h w
    · exact figures_step n h hb w (Lib.hid (figures_any (n / 10) (by omega) w))
termination_by n => n
decreasing_by omega
end Go.Proofs.YtbpebngjpecncaaGreatDoor
