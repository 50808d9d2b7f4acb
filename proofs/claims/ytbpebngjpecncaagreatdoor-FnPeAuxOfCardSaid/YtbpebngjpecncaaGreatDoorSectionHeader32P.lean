/-
  The contracts of the functions that read the struct SectionHeader32 (read).
-/
import Derived.Test.YtbpebngjpecncaaGreatDoorOrd
import Derived.Test.YtbpebngjpecncaaGreatDoorSecRd
import Derived.Test.YtbpebngjpecncaaGreatDoorRow
import Derived.Test.YtbpebngjpecncaaGreatDoorName
import Derived.Test.YtbpebngjpecncaaGreatDoorNum1
namespace Go.Proofs.YtbpebngjpecncaaGreatDoor
set_option linter.unusedVariables false
set_option linter.unusedSimpArgs false
set_option maxRecDepth 100000
open Go Go.RowKit
attribute [local go_sem ↓] Go.wp_at_zero Go.wp_at_succ

/-- The fields of SectionHeader32 out of its bytes. -/
def fSectionHeader32 (big : Bool) (s : List UInt8) : List Value := (s.take 8).map bv ++ ([.int .u32 ((num big ((s.drop 8).take 4) : Nat) : Int), .int .u32 ((num big ((s.drop 12).take 4) : Nat) : Int), .int .u32 ((num big ((s.drop 16).take 4) : Nat) : Int), .int .u32 ((num big ((s.drop 20).take 4) : Nat) : Int), .int .u32 ((num big ((s.drop 24).take 4) : Nat) : Int), .int .u32 ((num big ((s.drop 28).take 4) : Nat) : Int), .int .u16 ((num big ((s.drop 32).take 2) : Nat) : Int), .int .u16 ((num big ((s.drop 34).take 2) : Nat) : Int), .int .u32 ((num big ((s.drop 36).take 4) : Nat) : Int)])
theorem fSectionHeader32_row (big : Bool) (s : List UInt8) (h : s.length = 40) : ∃ y0_0 y0_1 y0_2 y0_3 y0_4 y0_5 y0_6 y0_7, (s.take 8) = [y0_0, y0_1, y0_2, y0_3, y0_4, y0_5, y0_6, y0_7] ∧ fSectionHeader32 big s = [bv y0_0, bv y0_1, bv y0_2, bv y0_3, bv y0_4, bv y0_5, bv y0_6, bv y0_7, .int .u32 ((num big ((s.drop 8).take 4) : Nat) : Int), .int .u32 ((num big ((s.drop 12).take 4) : Nat) : Int), .int .u32 ((num big ((s.drop 16).take 4) : Nat) : Int), .int .u32 ((num big ((s.drop 20).take 4) : Nat) : Int), .int .u32 ((num big ((s.drop 24).take 4) : Nat) : Int), .int .u32 ((num big ((s.drop 28).take 4) : Nat) : Int), .int .u16 ((num big ((s.drop 32).take 2) : Nat) : Int), .int .u16 ((num big ((s.drop 34).take 2) : Nat) : Int), .int .u32 ((num big ((s.drop 36).take 4) : Nat) : Int)] := by
  obtain ⟨y0_0, y0_1, y0_2, y0_3, y0_4, y0_5, y0_6, y0_7, hy0⟩ := name8 (show (s.take 8).length = 8 by simp; omega)
  exact ⟨y0_0, y0_1, y0_2, y0_3, y0_4, y0_5, y0_6, y0_7, hy0, by unfold fSectionHeader32; simp only [hy0]; rfl⟩
theorem oneSectionHeader32 (big : Bool) (s : List UInt8) : ∀ v ∈ (fSectionHeader32 big s).toArray.toList, v.oneCell' = true := by
  refine List.all_eq_true.1 (show (fSectionHeader32 big s).all (·.oneCell') = true from ?_)
  simp only [fSectionHeader32, List.all_append, all_bv]
  rfl
theorem sizeSectionHeader32 (big : Bool) (s : List UInt8) (h : s.length = 40) : (fSectionHeader32 big s).toArray.size = 17 := by
  first | (simp [fSectionHeader32]; done) | (simp [fSectionHeader32]; omega)

set_option maxRecDepth 100000 in
set_option maxHeartbeats 2000000 in
theorem readSectionHeader32_all (V M : Nat) (rd : Value) (D : Nat → Prop) (l : List UInt8) (pos : Nat) (big : Bool) (TV : TypeId) (w : World)
    (hR : Hid (Rdr w rd M D l pos)) (hpos : Hid (pos + 40 ≤ l.length)) (hVM : V ≠ M) (hVD : Hid (¬ D V))
    (hV : Hid (w.heap[V]? = some (.cells #[.int .u8 0, .int .u8 0, .int .u8 0, .int .u8 0, .int .u8 0, .int .u8 0, .int .u8 0, .int .u8 0, .int .u32 0, .int .u32 0, .int .u32 0, .int .u32 0, .int .u32 0, .int .u32 0, .int .u16 0, .int .u16 0, .int .u32 0] TV (0, 0)))) :
    Calls Tryz.prog 40 #[.pointer (some ⟨V, 0, none⟩), rd, .int .u8 (ordn big)] w fun e w' => e = .returned .nilIface ∧
      Hid (Rdr w' rd M D l (pos + 40)) ∧ Hid (w'.heap[V]? = some (.cells (fSectionHeader32 big ((l.drop pos).take 40)).toArray TV (0, 0))) ∧ Chg (fun k => k = M ∨ k = V) w w' := by
  obtain ⟨cur, hF, hmk⟩ := makeBytes 40 (by omega)
  have hmk : ∀ w, (Instr.makeSlice 34 (.int .i64 40) (.int .i64 40)).run Tryz.prog w = .ok (.slice (some ⟨w.heap.size, 0, none⟩) 40 40) (w.alloc (.cells cur.toArray 5)) := hmk
  have hRlt : M < w.heap.size := hR.out.lt
  have hVlt : V < w.heap.size := (Array.getElem?_eq_some_iff.1 hV.out).1
  have hs := Lib.hid (show ((l.drop pos).take 40).length = 40 by have := hpos.out; simp; omega)
  have g1 := Lib.hid (heap_alloc_new w (.cells cur.toArray 5))
  have c0 : Chg (fun k => k = M ∨ k = V) w (w.alloc (.cells cur.toArray 5)) := (Chg.refl _ w).alloc _
  have V1 := Lib.hid ((Below.heap_alloc w (.cells cur.toArray 5) V hVlt).trans hV.out)
  have R1 := Lib.hid (hR.out.later ((Below.refl _ w).alloc (Nat.le_refl _) (.cells cur.toArray 5)))
  have hgD : Hid (¬ D w.heap.size) := Lib.hid (fun e => absurd (hR.out.d _ e).1 (Nat.lt_irrefl _))
  obtain ⟨s, hS⟩ : ∃ s, (l.drop pos).take 40 = s := ⟨_, rfl⟩
  rw [hS] at hs ⊢
  have HS := Lib.hid hS
  clear hS
  obtain ⟨y0_0, y0_1, y0_2, y0_3, y0_4, y0_5, y0_6, y0_7, hy0, hrow⟩ := fSectionHeader32_row big s hs.out
  replace hrow := Lib.hid hrow
  replace hy0 := Lib.hid hy0
  go_enter Tryz.func40, Tryz.ntmps40
  go_wp2_with fail
  refine (rdr_full rd M w.heap.size D l pos 40 5 cur _ R1 hpos (by omega) g1 hF hgD (by omega)).mono ?_
  rintro e w2 ⟨rfl, R2, g2, hc2, hs2⟩
  rw [HS.out] at g2
  have V2 : Hid (w2.heap[V]? = some (.cells #[.int .u8 0, .int .u8 0, .int .u8 0, .int .u8 0, .int .u8 0, .int .u8 0, .int .u8 0, .int .u8 0, .int .u32 0, .int .u32 0, .int .u32 0, .int .u32 0, .int .u32 0, .int .u32 0, .int .u16 0, .int .u16 0, .int .u32 0] TV (0, 0))) := Lib.hid (hc2.row V1.out (by omega))
  have B2 : Hid (RB w2 (some ⟨w.heap.size, 0, none⟩) s) := Lib.hid (RB.of_row g2.out)
  have C2 : Chg (fun k => k = M ∨ k = V) w w2 := c0.trans (hc2.mono fun k _ e => by rcases e with e | e <;> omega)
  clear hs2 hc2 g2 g1 c0 V1 R1 hmk hgD
  generalize w.heap.size = g at *
  -- field 0: a name
  have b0 : RB w2 (some ⟨g, 0, none⟩) [y0_0, y0_1, y0_2, y0_3, y0_4, y0_5, y0_6, y0_7] := by
    have := (B2.out.drop (c := 40) (by rw [hs.out]; omega) 0).take 8
    rwa [slA_some g 0 40 0 (by omega), Nat.zero_add, List.drop_zero, hy0.out] at this
  have HB0 := Lib.hid b0
  clear b0
  go_wp2
  go_region_held3 (fun _ => True) (trivial)
    ((refine step_copy_bytes (by rfl) _ _ _ _ (by rfl) 5 Tryz.underlying34 Tryz.sizeByte V 0 8 8 (some ⟨g, 0, none⟩) 8 40 (by rfl) (by rfl) [.int .u8 0, .int .u8 0, .int .u8 0, .int .u8 0, .int .u8 0, .int .u8 0, .int .u8 0, .int .u8 0, .int .u32 0, .int .u32 0, .int .u32 0, .int .u32 0, .int .u32 0, .int .u32 0, .int .u16 0, .int .u16 0, .int .u32 0] TV (by exact V2) [y0_0, y0_1, y0_2, y0_3, y0_4, y0_5, y0_6, y0_7] rfl (by exact HB0.out) (by decide) (by simp) ?_; intro w3 V3' hc0 hz0))
  replace V3' : Hid (w3.heap[V]? = some (.cells #[bv y0_0, bv y0_1, bv y0_2, bv y0_3, bv y0_4, bv y0_5, bv y0_6, bv y0_7, .int .u32 0, .int .u32 0, .int .u32 0, .int .u32 0, .int .u32 0, .int .u32 0, .int .u16 0, .int .u16 0, .int .u32 0] TV (0, 0))) := V3'
  have V3 := V3'
  replace hc0 : Chg (· = V) w2 w3 := ⟨hc0.os, hc0.tape, hc0.output, hc0.size, hc0.block⟩
  obtain ⟨B3, C3, R3⟩ := writtenV (w0 := w) hc0 B2 C2 R2 (.inr rfl) (by omega) hVM hVD
  clear V3' hc0 hz0 HB0 V2 B2 C2 R2
  -- field 1
  have b1 : RB w3 (some ⟨g, 8, none⟩) (s.drop 8) := by
    have := B3.out.drop (c := 40) (by rw [hs.out]; omega) 8
    rwa [slA_some g 0 40 8 (by omega), Nat.zero_add] at this
  have HB1 := Lib.hid b1
  clear b1
  go_wp2_with fail
  refine (u32_RB big g 8 32 32 (s.drop 8) _ HB1.out (by rw [List.length_drop, hs.out]; omega) (by omega) (by omega)).mono ?_
  rintro e w' ⟨rfl, q, rfl⟩
  have d1 : w3.cell? ⟨V, 8, none⟩ = some (.int .u32 0) := cell_of_row _ V 8 _ _ _ V3.out
  have fr1 : w3.frozen? ⟨V, 8, none⟩ = false := frozen_of_row _ V 8 _ _ V3.out
  go_wp2_with fail
  obtain ⟨w4, hw4, V4, B4, C4, R4⟩ := storedV (w0 := w) (x := .int .u32 ((num big ((s.drop 8).take 4) : Nat) : Int)) q 8 V3 B3 C3 R3 (.inr rfl) (by omega) hVM hVD
  simp only [List.setIfInBounds_toArray, List.set_cons_succ, List.set_cons_zero] at V4
  rw [← hw4]
  clear hw4 V3 B3 C3 R3 d1 fr1 HB1
  -- field 2
  have b2 : RB w4 (some ⟨g, 12, none⟩) (s.drop 12) := by
    have := B4.out.drop (c := 40) (by rw [hs.out]; omega) 12
    rwa [slA_some g 0 40 12 (by omega), Nat.zero_add] at this
  have HB2 := Lib.hid b2
  clear b2
  go_wp2_with fail
  refine (u32_RB big g 12 28 28 (s.drop 12) _ HB2.out (by rw [List.length_drop, hs.out]; omega) (by omega) (by omega)).mono ?_
  rintro e w' ⟨rfl, q, rfl⟩
  have d2 : w4.cell? ⟨V, 9, none⟩ = some (.int .u32 0) := cell_of_row _ V 9 _ _ _ V4.out
  have fr2 : w4.frozen? ⟨V, 9, none⟩ = false := frozen_of_row _ V 9 _ _ V4.out
  go_wp2_with fail
  obtain ⟨w5, hw5, V5, B5, C5, R5⟩ := storedV (w0 := w) (x := .int .u32 ((num big ((s.drop 12).take 4) : Nat) : Int)) q 9 V4 B4 C4 R4 (.inr rfl) (by omega) hVM hVD
  simp only [List.setIfInBounds_toArray, List.set_cons_succ, List.set_cons_zero] at V5
  rw [← hw5]
  clear hw5 V4 B4 C4 R4 d2 fr2 HB2
  -- field 3
  have b3 : RB w5 (some ⟨g, 16, none⟩) (s.drop 16) := by
    have := B5.out.drop (c := 40) (by rw [hs.out]; omega) 16
    rwa [slA_some g 0 40 16 (by omega), Nat.zero_add] at this
  have HB3 := Lib.hid b3
  clear b3
  go_wp2_with fail
  refine (u32_RB big g 16 24 24 (s.drop 16) _ HB3.out (by rw [List.length_drop, hs.out]; omega) (by omega) (by omega)).mono ?_
  rintro e w' ⟨rfl, q, rfl⟩
  have d3 : w5.cell? ⟨V, 10, none⟩ = some (.int .u32 0) := cell_of_row _ V 10 _ _ _ V5.out
  have fr3 : w5.frozen? ⟨V, 10, none⟩ = false := frozen_of_row _ V 10 _ _ V5.out
  go_wp2_with fail
  obtain ⟨w6, hw6, V6, B6, C6, R6⟩ := storedV (w0 := w) (x := .int .u32 ((num big ((s.drop 16).take 4) : Nat) : Int)) q 10 V5 B5 C5 R5 (.inr rfl) (by omega) hVM hVD
  simp only [List.setIfInBounds_toArray, List.set_cons_succ, List.set_cons_zero] at V6
  rw [← hw6]
  clear hw6 V5 B5 C5 R5 d3 fr3 HB3
  -- field 4
  have b4 : RB w6 (some ⟨g, 20, none⟩) (s.drop 20) := by
    have := B6.out.drop (c := 40) (by rw [hs.out]; omega) 20
    rwa [slA_some g 0 40 20 (by omega), Nat.zero_add] at this
  have HB4 := Lib.hid b4
  clear b4
  go_wp2_with fail
  refine (u32_RB big g 20 20 20 (s.drop 20) _ HB4.out (by rw [List.length_drop, hs.out]; omega) (by omega) (by omega)).mono ?_
  rintro e w' ⟨rfl, q, rfl⟩
  have d4 : w6.cell? ⟨V, 11, none⟩ = some (.int .u32 0) := cell_of_row _ V 11 _ _ _ V6.out
  have fr4 : w6.frozen? ⟨V, 11, none⟩ = false := frozen_of_row _ V 11 _ _ V6.out
  go_wp2_with fail
  obtain ⟨w7, hw7, V7, B7, C7, R7⟩ := storedV (w0 := w) (x := .int .u32 ((num big ((s.drop 20).take 4) : Nat) : Int)) q 11 V6 B6 C6 R6 (.inr rfl) (by omega) hVM hVD
  simp only [List.setIfInBounds_toArray, List.set_cons_succ, List.set_cons_zero] at V7
  rw [← hw7]
  clear hw7 V6 B6 C6 R6 d4 fr4 HB4
  -- field 5
  have b5 : RB w7 (some ⟨g, 24, none⟩) (s.drop 24) := by
    have := B7.out.drop (c := 40) (by rw [hs.out]; omega) 24
    rwa [slA_some g 0 40 24 (by omega), Nat.zero_add] at this
  have HB5 := Lib.hid b5
  clear b5
  go_wp2_with fail
  refine (u32_RB big g 24 16 16 (s.drop 24) _ HB5.out (by rw [List.length_drop, hs.out]; omega) (by omega) (by omega)).mono ?_
  rintro e w' ⟨rfl, q, rfl⟩
  have d5 : w7.cell? ⟨V, 12, none⟩ = some (.int .u32 0) := cell_of_row _ V 12 _ _ _ V7.out
  have fr5 : w7.frozen? ⟨V, 12, none⟩ = false := frozen_of_row _ V 12 _ _ V7.out
  go_wp2_with fail
  obtain ⟨w8, hw8, V8, B8, C8, R8⟩ := storedV (w0 := w) (x := .int .u32 ((num big ((s.drop 24).take 4) : Nat) : Int)) q 12 V7 B7 C7 R7 (.inr rfl) (by omega) hVM hVD
  simp only [List.setIfInBounds_toArray, List.set_cons_succ, List.set_cons_zero] at V8
  rw [← hw8]
  clear hw8 V7 B7 C7 R7 d5 fr5 HB5
  -- field 6
  have b6 : RB w8 (some ⟨g, 28, none⟩) (s.drop 28) := by
    have := B8.out.drop (c := 40) (by rw [hs.out]; omega) 28
    rwa [slA_some g 0 40 28 (by omega), Nat.zero_add] at this
  have HB6 := Lib.hid b6
  clear b6
  go_wp2_with fail
  refine (u32_RB big g 28 12 12 (s.drop 28) _ HB6.out (by rw [List.length_drop, hs.out]; omega) (by omega) (by omega)).mono ?_
  rintro e w' ⟨rfl, q, rfl⟩
  have d6 : w8.cell? ⟨V, 13, none⟩ = some (.int .u32 0) := cell_of_row _ V 13 _ _ _ V8.out
  have fr6 : w8.frozen? ⟨V, 13, none⟩ = false := frozen_of_row _ V 13 _ _ V8.out
  go_wp2_with fail
  obtain ⟨w9, hw9, V9, B9, C9, R9⟩ := storedV (w0 := w) (x := .int .u32 ((num big ((s.drop 28).take 4) : Nat) : Int)) q 13 V8 B8 C8 R8 (.inr rfl) (by omega) hVM hVD
  simp only [List.setIfInBounds_toArray, List.set_cons_succ, List.set_cons_zero] at V9
  rw [← hw9]
  clear hw9 V8 B8 C8 R8 d6 fr6 HB6
  -- field 7
  have b7 : RB w9 (some ⟨g, 32, none⟩) (s.drop 32) := by
    have := B9.out.drop (c := 40) (by rw [hs.out]; omega) 32
    rwa [slA_some g 0 40 32 (by omega), Nat.zero_add] at this
  have HB7 := Lib.hid b7
  clear b7
  go_wp2_with fail
  refine (u16_RB big g 32 8 8 (s.drop 32) _ HB7.out (by rw [List.length_drop, hs.out]; omega) (by omega) (by omega)).mono ?_
  rintro e w' ⟨rfl, q, rfl⟩
  have d7 : w9.cell? ⟨V, 14, none⟩ = some (.int .u16 0) := cell_of_row _ V 14 _ _ _ V9.out
  have fr7 : w9.frozen? ⟨V, 14, none⟩ = false := frozen_of_row _ V 14 _ _ V9.out
  go_wp2_with fail
  obtain ⟨w10, hw10, V10, B10, C10, R10⟩ := storedV (w0 := w) (x := .int .u16 ((num big ((s.drop 32).take 2) : Nat) : Int)) q 14 V9 B9 C9 R9 (.inr rfl) (by omega) hVM hVD
  simp only [List.setIfInBounds_toArray, List.set_cons_succ, List.set_cons_zero] at V10
  rw [← hw10]
  clear hw10 V9 B9 C9 R9 d7 fr7 HB7
  -- field 8
  have b8 : RB w10 (some ⟨g, 34, none⟩) (s.drop 34) := by
    have := B10.out.drop (c := 40) (by rw [hs.out]; omega) 34
    rwa [slA_some g 0 40 34 (by omega), Nat.zero_add] at this
  have HB8 := Lib.hid b8
  clear b8
  go_wp2_with fail
  refine (u16_RB big g 34 6 6 (s.drop 34) _ HB8.out (by rw [List.length_drop, hs.out]; omega) (by omega) (by omega)).mono ?_
  rintro e w' ⟨rfl, q, rfl⟩
  have d8 : w10.cell? ⟨V, 15, none⟩ = some (.int .u16 0) := cell_of_row _ V 15 _ _ _ V10.out
  have fr8 : w10.frozen? ⟨V, 15, none⟩ = false := frozen_of_row _ V 15 _ _ V10.out
  go_wp2_with fail
  obtain ⟨w11, hw11, V11, B11, C11, R11⟩ := storedV (w0 := w) (x := .int .u16 ((num big ((s.drop 34).take 2) : Nat) : Int)) q 15 V10 B10 C10 R10 (.inr rfl) (by omega) hVM hVD
  simp only [List.setIfInBounds_toArray, List.set_cons_succ, List.set_cons_zero] at V11
  rw [← hw11]
  clear hw11 V10 B10 C10 R10 d8 fr8 HB8
  -- field 9
  have b9 : RB w11 (some ⟨g, 36, none⟩) (s.drop 36) := by
    have := B11.out.drop (c := 40) (by rw [hs.out]; omega) 36
    rwa [slA_some g 0 40 36 (by omega), Nat.zero_add] at this
  have HB9 := Lib.hid b9
  clear b9
  go_wp2_with fail
  refine (u32_RB big g 36 4 4 (s.drop 36) _ HB9.out (by rw [List.length_drop, hs.out]; omega) (by omega) (by omega)).mono ?_
  rintro e w' ⟨rfl, q, rfl⟩
  have d9 : w11.cell? ⟨V, 16, none⟩ = some (.int .u32 0) := cell_of_row _ V 16 _ _ _ V11.out
  have fr9 : w11.frozen? ⟨V, 16, none⟩ = false := frozen_of_row _ V 16 _ _ V11.out
  go_wp2
  obtain ⟨w12, hw12, V12, B12, C12, R12⟩ := storedV (w0 := w) (x := .int .u32 ((num big ((s.drop 36).take 4) : Nat) : Int)) q 16 V11 B11 C11 R11 (.inr rfl) (by omega) hVM hVD
  simp only [List.setIfInBounds_toArray, List.set_cons_succ, List.set_cons_zero] at V12
  rw [← hw12]
  clear hw12 V11 B11 C11 R11 d9 fr9 HB9
  go_ret
  exact ⟨rfl, R12, by rw [hrow.out]; exact V12, C12⟩

end Go.Proofs.YtbpebngjpecncaaGreatDoor
