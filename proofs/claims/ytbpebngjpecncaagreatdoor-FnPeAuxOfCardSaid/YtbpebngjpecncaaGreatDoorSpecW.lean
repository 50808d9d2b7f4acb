/-
  The widths of the fields of a PE file's structs; the machines. (Printed by gen_w.py.)
-/
import Derived.Test.YtbpebngjpecncaaGreatDoorSpecRow
namespace Go.Proofs.YtbpebngjpecncaaGreatDoor
set_option linter.unusedVariables false
set_option linter.unusedSimpArgs false
set_option maxRecDepth 100000
open Go Go.RowKit
attribute [local go_sem ↓] Go.wp_at_zero Go.wp_at_succ

set_option maxHeartbeats 400000 in
theorem peHeader_any (w : World) :
    Calls Tryz.prog 21 #[] w fun e w' => (∃ v, e = .returned (.slice v 7 7) ∧ RC w' v 1 7 (([2, 2, 4, 4, 4, 2, 2] : List Int).map iv)) ∧ Below w.heap.size w w' := by
  go_enter Tryz.func21, Tryz.ntmps21
  go_wp2
  go_ret
  exact ⟨⟨_, rfl, rc_new rfl rfl⟩, (Below.refl _ _).alloc (Nat.le_refl _) _⟩

set_option maxHeartbeats 400000 in
theorem peSection_any (w : World) :
    Calls Tryz.prog 17 #[] w fun e w' => (∃ v, e = .returned (.slice v 10 10) ∧ RC w' v 1 10 (([-8, 4, 4, 4, 4, 4, 4, 2, 2, 4] : List Int).map iv)) ∧ Below w.heap.size w w' := by
  go_enter Tryz.func17, Tryz.ntmps17
  go_wp2
  go_ret
  exact ⟨⟨_, rfl, rc_new rfl rfl⟩, (Below.refl _ _).alloc (Nat.le_refl _) _⟩

set_option maxHeartbeats 400000 in
theorem peCoffW_any (w : World) :
    Calls Tryz.prog 19 #[] w fun e w' => (∃ v, e = .returned (.slice v 6 6) ∧ RC w' v 1 6 (([-8, 4, 2, 2, 1, 1] : List Int).map iv)) ∧ Below w.heap.size w w' := by
  go_enter Tryz.func19, Tryz.ntmps19
  go_wp2
  go_ret
  exact ⟨⟨_, rfl, rc_new rfl rfl⟩, (Below.refl _ _).alloc (Nat.le_refl _) _⟩

set_option maxHeartbeats 400000 in
theorem peReloc_any (w : World) :
    Calls Tryz.prog 14 #[] w fun e w' => (∃ v, e = .returned (.slice v 3 3) ∧ RC w' v 1 3 (([4, 4, 2] : List Int).map iv)) ∧ Below w.heap.size w w' := by
  go_enter Tryz.func14, Tryz.ntmps14
  go_wp2
  go_ret
  exact ⟨⟨_, rfl, rc_new rfl rfl⟩, (Below.refl _ _).alloc (Nat.le_refl _) _⟩

/-- The widths of an optional header of 32 bits. -/
def optW32 : List Int := [2, 1, 1, 4, 4, 4, 4, 4, 4, 4, 4, 4, 2, 2, 2, 2, 2, 2, 4, 4, 4, 4, 2, 2, 4, 4, 4, 4, 4, 4]
set_option maxHeartbeats 1000000 in
theorem peOptional_false (w : World) :
    Calls Tryz.prog 11 #[.bool false] w fun e w' => (∃ v c, e = .returned (.slice v 30 c) ∧ 30 ≤ c ∧ Hid (RC w' v 1 30 (optW32.map iv))) ∧ Below w.heap.size w w' := by
  obtain ⟨i0, hi, hz0, hz1, hz2⟩ := info_parts Tryz.infoInt
  go_enter Tryz.func11, Tryz.ntmps11
  go_wp2_with fail
  refine (fours_any 5 (by omega) _).mono ?_
  rintro e w1 ⟨⟨v, rfl, hown⟩, hb1⟩
  obtain ⟨A, c, rfl, R1, -, -⟩ := RC.of_owns hown
  have own0 := Lib.hid (((World.ownsRow_lit (base := w.heap.size) (e := 3) (size := 1) w #[.int .i64 2, .int .i64 1, .int .i64 1] 3 (Nat.le_refl _) (by simp [maxLen]) (by simp))).kept (w' := w1) (row := none) ⟨hb1.os, hb1.tape, hb1.output, hb1.size, fun k hk _ => hb1.block k hk⟩ (.inr (by simp [Value.ownBlock])))
  replace R1 := Lib.hid R1
  have hz := hb1.size
  simp only [World.size_alloc] at hz
  have bb := Lib.hid (((Below.refl w.heap.size w).alloc (Nat.le_refl _) _).trans (hb1.mono (by simp)))
  clear hown hb1
  go_wp2_with (at_builtin; refine Stop.mk ?_)
  refine Stop.go ?_
  refine wpList_append_any rfl (.tmp 5) (.tmp 6) 28 rfl w.heap.size 3 i0 (.int .i64 0) 1 8 Tryz.underlying28 hi hz0 hz1 hz2 rfl (by omega) _ 3 _ rfl own0.out A 5 c _ rfl R1.out (List.all_eq_true.1 rfl) (by simp only [maxLen]; omega) (by omega) (by omega) ?_
  intro v2 w2 own2 g2 hat2
  have b2 := Lib.hid (bb.out.grown g2 (by omega) (fun q hq => (own0.out.lt q hq).1))
  have hz2' := b2.out.size
  clear g2 hat2 own0 R1 bb
  replace own2 := Lib.hid own2
  go_wp2_with (at_builtin; refine Stop.mk ?_)
  refine Stop.go ?_
  refine wpList_append_any rfl (.tmp 12) (.tmp 13) 28 rfl w.heap.size 3 i0 (.int .i64 0) 1 8 Tryz.underlying28 hi hz0 hz1 hz2 rfl (by omega) _ 8 _ rfl (own2.out.alloc _) (some ⟨w2.heap.size, 0, none⟩) 2 2 (([4, 4] : List Int).map iv) rfl (rc_new rfl rfl) (List.all_eq_true.1 rfl) (by simp only [maxLen]; omega) (by omega) (by simp; omega) ?_
  intro v3 w3 own3 g3 hat3
  have b3 := Lib.hid ((b2.out.alloc hz2' _).grown g3 (by simp; omega) (fun q hq => (own2.out.lt q hq).1))
  have hz3' := b3.out.size
  clear g3 hat3 own2 b2
  replace own3 := Lib.hid own3
  go_wp2_with (at_builtin; refine Stop.mk ?_)
  refine Stop.go ?_
  refine wpList_append_any rfl (.tmp 15) (.tmp 16) 28 rfl w.heap.size 3 i0 (.int .i64 0) 1 8 Tryz.underlying28 hi hz0 hz1 hz2 rfl (by omega) _ 10 _ rfl (own3.out.alloc _) (some ⟨w3.heap.size, 0, none⟩) 14 14 (([4, 4, 2, 2, 2, 2, 2, 2, 4, 4, 4, 4, 2, 2] : List Int).map iv) rfl (rc_new rfl rfl) (List.all_eq_true.1 rfl) (by simp only [maxLen]; omega) (by omega) (by simp; omega) ?_
  intro v4 w4 own4 g4 hat4
  have b4 := Lib.hid ((b3.out.alloc hz3' _).grown g4 (by simp; omega) (fun q hq => (own3.out.lt q hq).1))
  have hz4' := b4.out.size
  clear g4 hat4 own3 b3
  replace own4 := Lib.hid own4
  go_wp2_with fail
  refine (addr_any _ w4).mono ?_
  rintro e w' ⟨rfl, rfl⟩
  go_wp2_with (at_builtin; refine Stop.mk ?_)
  refine Stop.go ?_
  refine wpList_append_any rfl (.tmp 20) (.tmp 25) 28 rfl w.heap.size 3 i0 (.int .i64 0) 1 8 Tryz.underlying28 hi hz0 hz1 hz2 rfl (by omega) _ 24 _ rfl (own4.out.alloc _) (some ⟨w4.heap.size, 0, none⟩) 6 6 (([4, 4, 4, 4, 4, 4] : List Int).map iv) rfl (rc_new rfl rfl) (List.all_eq_true.1 rfl) (by simp only [maxLen]; omega) (by omega) (by simp; omega) ?_
  intro v5 w5 own5 g5 hat5
  have b5 := Lib.hid ((b4.out.alloc hz4' _).grown g5 (by simp; omega) (fun q hq => (own4.out.lt q hq).1))
  have hz5' := b5.out.size
  clear g5 hat5 own4 b4
  replace own5 := Lib.hid own5
  go_wp2
  go_ret
  obtain ⟨C, d, rfl, RX, hcd, -⟩ := RC.of_owns own5.out
  exact ⟨⟨_, _, rfl, hcd, Lib.hid RX⟩, b5.out⟩

/-- The widths of an optional header of 64 bits. -/
def optW64 : List Int := [2, 1, 1, 4, 4, 4, 4, 4, 8, 4, 4, 2, 2, 2, 2, 2, 2, 4, 4, 4, 4, 2, 2, 8, 8, 8, 8, 4, 4]
set_option maxHeartbeats 1000000 in
theorem peOptional_true (w : World) :
    Calls Tryz.prog 11 #[.bool true] w fun e w' => (∃ v c, e = .returned (.slice v 29 c) ∧ 29 ≤ c ∧ Hid (RC w' v 1 29 (optW64.map iv))) ∧ Below w.heap.size w w' := by
  obtain ⟨i0, hi, hz0, hz1, hz2⟩ := info_parts Tryz.infoInt
  go_enter Tryz.func11, Tryz.ntmps11
  go_wp2_with fail
  refine (fours_any 5 (by omega) _).mono ?_
  rintro e w1 ⟨⟨v, rfl, hown⟩, hb1⟩
  obtain ⟨A, c, rfl, R1, -, -⟩ := RC.of_owns hown
  have own0 := Lib.hid (((World.ownsRow_lit (base := w.heap.size) (e := 3) (size := 1) w #[.int .i64 2, .int .i64 1, .int .i64 1] 3 (Nat.le_refl _) (by simp [maxLen]) (by simp))).kept (w' := w1) (row := none) ⟨hb1.os, hb1.tape, hb1.output, hb1.size, fun k hk _ => hb1.block k hk⟩ (.inr (by simp [Value.ownBlock])))
  replace R1 := Lib.hid R1
  have hz := hb1.size
  simp only [World.size_alloc] at hz
  have bb := Lib.hid (((Below.refl w.heap.size w).alloc (Nat.le_refl _) _).trans (hb1.mono (by simp)))
  clear hown hb1
  go_wp2_with (at_builtin; refine Stop.mk ?_)
  refine Stop.go ?_
  refine wpList_append_any rfl (.tmp 5) (.tmp 6) 28 rfl w.heap.size 3 i0 (.int .i64 0) 1 8 Tryz.underlying28 hi hz0 hz1 hz2 rfl (by omega) _ 3 _ rfl own0.out A 5 c _ rfl R1.out (List.all_eq_true.1 rfl) (by simp only [maxLen]; omega) (by omega) (by omega) ?_
  intro v2 w2 own2 g2 hat2
  have b2 := Lib.hid (bb.out.grown g2 (by omega) (fun q hq => (own0.out.lt q hq).1))
  have hz2' := b2.out.size
  clear g2 hat2 own0 R1 bb
  replace own2 := Lib.hid own2
  go_wp2_with (at_builtin; refine Stop.mk ?_)
  refine Stop.go ?_
  refine wpList_append_any rfl (.tmp 9) (.tmp 10) 28 rfl w.heap.size 3 i0 (.int .i64 0) 1 8 Tryz.underlying28 hi hz0 hz1 hz2 rfl (by omega) _ 8 _ rfl (own2.out.alloc _) (some ⟨w2.heap.size, 0, none⟩) 1 1 (([8] : List Int).map iv) rfl (rc_new rfl rfl) (List.all_eq_true.1 rfl) (by simp only [maxLen]; omega) (by omega) (by simp; omega) ?_
  intro v3 w3 own3 g3 hat3
  have b3 := Lib.hid ((b2.out.alloc hz2' _).grown g3 (by simp; omega) (fun q hq => (own2.out.lt q hq).1))
  have hz3' := b3.out.size
  clear g3 hat3 own2 b2
  replace own3 := Lib.hid own3
  go_wp2_with (at_builtin; refine Stop.mk ?_)
  refine Stop.go ?_
  refine wpList_append_any rfl (.tmp 15) (.tmp 16) 28 rfl w.heap.size 3 i0 (.int .i64 0) 1 8 Tryz.underlying28 hi hz0 hz1 hz2 rfl (by omega) _ 9 _ rfl (own3.out.alloc _) (some ⟨w3.heap.size, 0, none⟩) 14 14 (([4, 4, 2, 2, 2, 2, 2, 2, 4, 4, 4, 4, 2, 2] : List Int).map iv) rfl (rc_new rfl rfl) (List.all_eq_true.1 rfl) (by simp only [maxLen]; omega) (by omega) (by simp; omega) ?_
  intro v4 w4 own4 g4 hat4
  have b4 := Lib.hid ((b3.out.alloc hz3' _).grown g4 (by simp; omega) (fun q hq => (own3.out.lt q hq).1))
  have hz4' := b4.out.size
  clear g4 hat4 own3 b3
  replace own4 := Lib.hid own4
  go_wp2_with fail
  refine (addr_any _ w4).mono ?_
  rintro e w' ⟨rfl, rfl⟩
  go_wp2_with (at_builtin; refine Stop.mk ?_)
  refine Stop.go ?_
  refine wpList_append_any rfl (.tmp 20) (.tmp 25) 28 rfl w.heap.size 3 i0 (.int .i64 0) 1 8 Tryz.underlying28 hi hz0 hz1 hz2 rfl (by omega) _ 23 _ rfl (own4.out.alloc _) (some ⟨w4.heap.size, 0, none⟩) 6 6 (([8, 8, 8, 8, 4, 4] : List Int).map iv) rfl (rc_new rfl rfl) (List.all_eq_true.1 rfl) (by simp only [maxLen]; omega) (by omega) (by simp; omega) ?_
  intro v5 w5 own5 g5 hat5
  have b5 := Lib.hid ((b4.out.alloc hz4' _).grown g5 (by simp; omega) (fun q hq => (own4.out.lt q hq).1))
  have hz5' := b5.out.size
  clear g5 hat5 own4 b4
  replace own5 := Lib.hid own5
  go_wp2
  go_ret
  obtain ⟨C, d, rfl, RX, hcd, -⟩ := RC.of_owns own5.out
  exact ⟨⟨_, _, rfl, hcd, Lib.hid RX⟩, b5.out⟩

/-- The machines that are read. -/
def machL : List Int := [0, 332, 452, 20530, 20580, 20776, 34404, 43620]
set_option maxHeartbeats 400000 in
theorem machines_any (w : World) :
    Calls Tryz.prog 10 #[] w fun e w' => (∃ v, e = .returned (.slice v 8 8) ∧ RC w' v 1 8 (machL.map fun x => Value.int .u16 x)) ∧ Below w.heap.size w w' := by
  go_enter Tryz.func10, Tryz.ntmps10
  go_wp2
  go_ret
  exact ⟨⟨_, rfl, rc_new rfl rfl⟩, (Below.refl _ _).alloc (Nat.le_refl _) _⟩
end Go.Proofs.YtbpebngjpecncaaGreatDoor
