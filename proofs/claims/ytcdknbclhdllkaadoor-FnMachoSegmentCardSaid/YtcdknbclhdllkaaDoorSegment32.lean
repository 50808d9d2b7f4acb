/-
  The contracts of the functions that read the struct Segment32 (read).
-/
import Derived.Test.YtcdknbclhdllkaaDoorOrd
import Derived.Test.YtcdknbclhdllkaaDoorRdr
import Derived.Test.YtcdknbclhdllkaaDoorRow
import Derived.Test.YtcdknbclhdllkaaDoorName
import Derived.Test.YtcdknbclhdllkaaDoorNum1
namespace Go.Proofs.YtcdknbclhdllkaaDoor
set_option linter.unusedVariables false
set_option linter.unusedSimpArgs false
open Go Go.RowKit
attribute [local go_sem ↓] Go.wp_at_zero Go.wp_at_succ

/-- The fields of Segment32 out of its bytes. -/
def fSegment32 (big : Bool) (s : List UInt8) : List Value := [.int .u32 ((num big (s.take 4) : Nat) : Int), .int .u32 ((num big ((s.drop 4).take 4) : Nat) : Int)] ++ (((s.drop 8).take 16).map bv ++ ([.int .u32 ((num big ((s.drop 24).take 4) : Nat) : Int), .int .u32 ((num big ((s.drop 28).take 4) : Nat) : Int), .int .u32 ((num big ((s.drop 32).take 4) : Nat) : Int), .int .u32 ((num big ((s.drop 36).take 4) : Nat) : Int), .int .u32 ((num big ((s.drop 40).take 4) : Nat) : Int), .int .u32 ((num big ((s.drop 44).take 4) : Nat) : Int), .int .u32 ((num big ((s.drop 48).take 4) : Nat) : Int), .int .u32 ((num big ((s.drop 52).take 4) : Nat) : Int)]))
theorem fSegment32_row (big : Bool) (s : List UInt8) (h : s.length = 56) : ∃ y2_0 y2_1 y2_2 y2_3 y2_4 y2_5 y2_6 y2_7 y2_8 y2_9 y2_10 y2_11 y2_12 y2_13 y2_14 y2_15, ((s.drop 8).take 16) = [y2_0, y2_1, y2_2, y2_3, y2_4, y2_5, y2_6, y2_7, y2_8, y2_9, y2_10, y2_11, y2_12, y2_13, y2_14, y2_15] ∧ fSegment32 big s = [.int .u32 ((num big (s.take 4) : Nat) : Int), .int .u32 ((num big ((s.drop 4).take 4) : Nat) : Int), bv y2_0, bv y2_1, bv y2_2, bv y2_3, bv y2_4, bv y2_5, bv y2_6, bv y2_7, bv y2_8, bv y2_9, bv y2_10, bv y2_11, bv y2_12, bv y2_13, bv y2_14, bv y2_15, .int .u32 ((num big ((s.drop 24).take 4) : Nat) : Int), .int .u32 ((num big ((s.drop 28).take 4) : Nat) : Int), .int .u32 ((num big ((s.drop 32).take 4) : Nat) : Int), .int .u32 ((num big ((s.drop 36).take 4) : Nat) : Int), .int .u32 ((num big ((s.drop 40).take 4) : Nat) : Int), .int .u32 ((num big ((s.drop 44).take 4) : Nat) : Int), .int .u32 ((num big ((s.drop 48).take 4) : Nat) : Int), .int .u32 ((num big ((s.drop 52).take 4) : Nat) : Int)] := by
  obtain ⟨y2_0, y2_1, y2_2, y2_3, y2_4, y2_5, y2_6, y2_7, y2_8, y2_9, y2_10, y2_11, y2_12, y2_13, y2_14, y2_15, hy2⟩ := name16 (show ((s.drop 8).take 16).length = 16 by simp; omega)
  exact ⟨y2_0, y2_1, y2_2, y2_3, y2_4, y2_5, y2_6, y2_7, y2_8, y2_9, y2_10, y2_11, y2_12, y2_13, y2_14, y2_15, hy2, by unfold fSegment32; simp only [hy2]; rfl⟩
theorem oneSegment32 (big : Bool) (s : List UInt8) : ∀ v ∈ (fSegment32 big s).toArray.toList, v.oneCell' = true := by
  refine List.all_eq_true.1 (show (fSegment32 big s).all (·.oneCell') = true from ?_)
  simp only [fSegment32, List.all_append, all_bv]
  rfl
theorem sizeSegment32 (big : Bool) (s : List UInt8) (h : s.length = 56) : (fSegment32 big s).toArray.size = 26 := by
  first | (simp [fSegment32]; done) | (simp [fSegment32]; omega)

set_option maxRecDepth 100000 in
set_option maxHeartbeats 2000000 in
theorem readSegment32_all (V M : Nat) (rd : Value) (D : Nat → Prop) (l : List UInt8) (pos : Nat) (big : Bool) (TV : TypeId) (w : World)
    (hR : Hid (Rdr w rd M D l pos)) (hpos : Hid (pos + 56 ≤ l.length)) (hVM : V ≠ M) (hVD : Hid (¬ D V))
    (hV : Hid (w.heap[V]? = some (.cells #[.int .u32 0, .int .u32 0, .int .u8 0, .int .u8 0, .int .u8 0, .int .u8 0, .int .u8 0, .int .u8 0, .int .u8 0, .int .u8 0, .int .u8 0, .int .u8 0, .int .u8 0, .int .u8 0, .int .u8 0, .int .u8 0, .int .u8 0, .int .u8 0, .int .u32 0, .int .u32 0, .int .u32 0, .int .u32 0, .int .u32 0, .int .u32 0, .int .u32 0, .int .u32 0] TV (0, 0)))) :
    Calls Tryd.prog 55 #[.pointer (some ⟨V, 0, none⟩), rd, .int .u8 (ordn big)] w fun e w' => e = .returned .nilIface ∧
      Hid (Rdr w' rd M D l (pos + 56)) ∧ Hid (w'.heap[V]? = some (.cells (fSegment32 big ((l.drop pos).take 56)).toArray TV (0, 0))) ∧ Chg (fun k => k = M ∨ k = V) w w' := by
  obtain ⟨cur, hF, hmk⟩ := makeBytes 56 (by omega)
  have hmk : ∀ w, (Instr.makeSlice 22 (.int .i64 56) (.int .i64 56)).run Tryd.prog w = .ok (.slice (some ⟨w.heap.size, 0, none⟩) 56 56) (w.alloc (.cells cur.toArray 5)) := hmk
  have hRlt : M < w.heap.size := hR.out.lt
  have hVlt : V < w.heap.size := (Array.getElem?_eq_some_iff.1 hV.out).1
  have hs := Lib.hid (show ((l.drop pos).take 56).length = 56 by have := hpos.out; simp; omega)
  have g1 := Lib.hid (heap_alloc_new w (.cells cur.toArray 5))
  have c0 : Chg (fun k => k = M ∨ k = V) w (w.alloc (.cells cur.toArray 5)) := (Chg.refl _ w).alloc _
  have V1 := Lib.hid ((Below.heap_alloc w (.cells cur.toArray 5) V hVlt).trans hV.out)
  have R1 := Lib.hid (hR.out.later ((Below.refl _ w).alloc (Nat.le_refl _) (.cells cur.toArray 5)))
  have hgD : Hid (¬ D w.heap.size) := Lib.hid (fun e => absurd (hR.out.d _ e).1 (Nat.lt_irrefl _))
  obtain ⟨s, hS⟩ : ∃ s, (l.drop pos).take 56 = s := ⟨_, rfl⟩
  rw [hS] at hs ⊢
  have HS := Lib.hid hS
  clear hS
  obtain ⟨y2_0, y2_1, y2_2, y2_3, y2_4, y2_5, y2_6, y2_7, y2_8, y2_9, y2_10, y2_11, y2_12, y2_13, y2_14, y2_15, hy2, hrow⟩ := fSegment32_row big s hs.out
  replace hrow := Lib.hid hrow
  replace hy2 := Lib.hid hy2
  go_enter Tryd.func55, Tryd.ntmps55
  go_wp2_with fail
  refine (rdr_full rd M w.heap.size D l pos 56 5 cur _ R1 hpos (by omega) g1 hF hgD (by omega)).mono ?_
  rintro e w2 ⟨rfl, R2, g2, hc2, hs2⟩
  rw [HS.out] at g2
  have V2 : Hid (w2.heap[V]? = some (.cells #[.int .u32 0, .int .u32 0, .int .u8 0, .int .u8 0, .int .u8 0, .int .u8 0, .int .u8 0, .int .u8 0, .int .u8 0, .int .u8 0, .int .u8 0, .int .u8 0, .int .u8 0, .int .u8 0, .int .u8 0, .int .u8 0, .int .u8 0, .int .u8 0, .int .u32 0, .int .u32 0, .int .u32 0, .int .u32 0, .int .u32 0, .int .u32 0, .int .u32 0, .int .u32 0] TV (0, 0))) := Lib.hid (hc2.row V1.out (by omega))
  have B2 : Hid (RB w2 (some ⟨w.heap.size, 0, none⟩) s) := Lib.hid (RB.of_row g2.out)
  have C2 : Chg (fun k => k = M ∨ k = V) w w2 := c0.trans (hc2.mono fun k _ e => by rcases e with e | e <;> omega)
  clear hs2 hc2 g2 g1 c0 V1 R1 hmk hgD
  generalize w.heap.size = g at *
  -- field 0
  have b0 : RB w2 (some ⟨g, 0, none⟩) s := by
    have := B2.out.drop (c := 56) (by rw [hs.out]; omega) 0
    rwa [slA_some g 0 56 0 (by omega), Nat.zero_add, List.drop_zero] at this
  have HB0 := Lib.hid b0
  clear b0
  go_wp2_with fail
  refine (u32_RB big g 0 56 56 s _ HB0.out (by rw [hs.out]; omega) (by omega) (by omega)).mono ?_
  rintro e w' ⟨rfl, q, rfl⟩
  have d0 : w2.cell? ⟨V, 0, none⟩ = some (.int .u32 0) := cell_of_row _ V 0 _ _ _ V2.out
  have fr0 : w2.frozen? ⟨V, 0, none⟩ = false := frozen_of_row _ V 0 _ _ V2.out
  go_wp2_with fail
  obtain ⟨w3, hw3, V3, B3, C3, R3⟩ := storedV (w0 := w) (x := .int .u32 ((num big (s.take 4) : Nat) : Int)) q 0 V2 B2 C2 R2 (.inr rfl) (by omega) hVM hVD
  simp only [List.setIfInBounds_toArray, List.set_cons_succ, List.set_cons_zero] at V3
  rw [← hw3]
  clear hw3 V2 B2 C2 R2 d0 fr0 HB0
  -- field 1
  have b1 : RB w3 (some ⟨g, 4, none⟩) (s.drop 4) := by
    have := B3.out.drop (c := 56) (by rw [hs.out]; omega) 4
    rwa [slA_some g 0 56 4 (by omega), Nat.zero_add] at this
  have HB1 := Lib.hid b1
  clear b1
  go_wp2_with fail
  refine (u32_RB big g 4 52 52 (s.drop 4) _ HB1.out (by rw [List.length_drop, hs.out]; omega) (by omega) (by omega)).mono ?_
  rintro e w' ⟨rfl, q, rfl⟩
  have d1 : w3.cell? ⟨V, 1, none⟩ = some (.int .u32 0) := cell_of_row _ V 1 _ _ _ V3.out
  have fr1 : w3.frozen? ⟨V, 1, none⟩ = false := frozen_of_row _ V 1 _ _ V3.out
  go_wp2_with fail
  obtain ⟨w4, hw4, V4, B4, C4, R4⟩ := storedV (w0 := w) (x := .int .u32 ((num big ((s.drop 4).take 4) : Nat) : Int)) q 1 V3 B3 C3 R3 (.inr rfl) (by omega) hVM hVD
  simp only [List.setIfInBounds_toArray, List.set_cons_succ, List.set_cons_zero] at V4
  rw [← hw4]
  clear hw4 V3 B3 C3 R3 d1 fr1 HB1
  -- field 2: a name
  have b2 : RB w4 (some ⟨g, 8, none⟩) [y2_0, y2_1, y2_2, y2_3, y2_4, y2_5, y2_6, y2_7, y2_8, y2_9, y2_10, y2_11, y2_12, y2_13, y2_14, y2_15] := by
    have := (B4.out.drop (c := 56) (by rw [hs.out]; omega) 8).take 16
    rwa [slA_some g 0 56 8 (by omega), Nat.zero_add, hy2.out] at this
  have HB2 := Lib.hid b2
  clear b2
  go_wp2
  go_region_held3 (fun _ => True) (trivial)
    ((refine step_copy_bytes (by rfl) _ _ _ _ (by rfl) 5 Tryd.underlying22 Tryd.sizeByte V 2 16 16 (some ⟨g, 8, none⟩) 16 48 (by rfl) (by rfl) [.int .u32 ((num big (s.take 4) : Nat) : Int), .int .u32 ((num big ((s.drop 4).take 4) : Nat) : Int), .int .u8 0, .int .u8 0, .int .u8 0, .int .u8 0, .int .u8 0, .int .u8 0, .int .u8 0, .int .u8 0, .int .u8 0, .int .u8 0, .int .u8 0, .int .u8 0, .int .u8 0, .int .u8 0, .int .u8 0, .int .u8 0, .int .u32 0, .int .u32 0, .int .u32 0, .int .u32 0, .int .u32 0, .int .u32 0, .int .u32 0, .int .u32 0] TV (by exact V4) [y2_0, y2_1, y2_2, y2_3, y2_4, y2_5, y2_6, y2_7, y2_8, y2_9, y2_10, y2_11, y2_12, y2_13, y2_14, y2_15] rfl (by exact HB2.out) (by decide) (by simp) ?_; intro w5 V5' hc2 hz2))
  replace V5' : Hid (w5.heap[V]? = some (.cells #[.int .u32 ((num big (s.take 4) : Nat) : Int), .int .u32 ((num big ((s.drop 4).take 4) : Nat) : Int), bv y2_0, bv y2_1, bv y2_2, bv y2_3, bv y2_4, bv y2_5, bv y2_6, bv y2_7, bv y2_8, bv y2_9, bv y2_10, bv y2_11, bv y2_12, bv y2_13, bv y2_14, bv y2_15, .int .u32 0, .int .u32 0, .int .u32 0, .int .u32 0, .int .u32 0, .int .u32 0, .int .u32 0, .int .u32 0] TV (0, 0))) := V5'
  have V5 := V5'
  replace hc2 : Chg (· = V) w4 w5 := ⟨hc2.os, hc2.tape, hc2.output, hc2.size, hc2.block⟩
  obtain ⟨B5, C5, R5⟩ := writtenV (w0 := w) hc2 B4 C4 R4 (.inr rfl) (by omega) hVM hVD
  clear V5' hc2 hz2 HB2 V4 B4 C4 R4
  -- field 3
  have b3 : RB w5 (some ⟨g, 24, none⟩) (s.drop 24) := by
    have := B5.out.drop (c := 56) (by rw [hs.out]; omega) 24
    rwa [slA_some g 0 56 24 (by omega), Nat.zero_add] at this
  have HB3 := Lib.hid b3
  clear b3
  go_wp2_with fail
  refine (u32_RB big g 24 32 32 (s.drop 24) _ HB3.out (by rw [List.length_drop, hs.out]; omega) (by omega) (by omega)).mono ?_
  rintro e w' ⟨rfl, q, rfl⟩
  have d3 : w5.cell? ⟨V, 18, none⟩ = some (.int .u32 0) := cell_of_row _ V 18 _ _ _ V5.out
  have fr3 : w5.frozen? ⟨V, 18, none⟩ = false := frozen_of_row _ V 18 _ _ V5.out
  go_wp2_with fail
  obtain ⟨w6, hw6, V6, B6, C6, R6⟩ := storedV (w0 := w) (x := .int .u32 ((num big ((s.drop 24).take 4) : Nat) : Int)) q 18 V5 B5 C5 R5 (.inr rfl) (by omega) hVM hVD
  simp only [List.setIfInBounds_toArray, List.set_cons_succ, List.set_cons_zero] at V6
  rw [← hw6]
  clear hw6 V5 B5 C5 R5 d3 fr3 HB3
  -- field 4
  have b4 : RB w6 (some ⟨g, 28, none⟩) (s.drop 28) := by
    have := B6.out.drop (c := 56) (by rw [hs.out]; omega) 28
    rwa [slA_some g 0 56 28 (by omega), Nat.zero_add] at this
  have HB4 := Lib.hid b4
  clear b4
  go_wp2_with fail
  refine (u32_RB big g 28 28 28 (s.drop 28) _ HB4.out (by rw [List.length_drop, hs.out]; omega) (by omega) (by omega)).mono ?_
  rintro e w' ⟨rfl, q, rfl⟩
  have d4 : w6.cell? ⟨V, 19, none⟩ = some (.int .u32 0) := cell_of_row _ V 19 _ _ _ V6.out
  have fr4 : w6.frozen? ⟨V, 19, none⟩ = false := frozen_of_row _ V 19 _ _ V6.out
  go_wp2_with fail
  obtain ⟨w7, hw7, V7, B7, C7, R7⟩ := storedV (w0 := w) (x := .int .u32 ((num big ((s.drop 28).take 4) : Nat) : Int)) q 19 V6 B6 C6 R6 (.inr rfl) (by omega) hVM hVD
  simp only [List.setIfInBounds_toArray, List.set_cons_succ, List.set_cons_zero] at V7
  rw [← hw7]
  clear hw7 V6 B6 C6 R6 d4 fr4 HB4
  -- field 5
  have b5 : RB w7 (some ⟨g, 32, none⟩) (s.drop 32) := by
    have := B7.out.drop (c := 56) (by rw [hs.out]; omega) 32
    rwa [slA_some g 0 56 32 (by omega), Nat.zero_add] at this
  have HB5 := Lib.hid b5
  clear b5
  go_wp2_with fail
  refine (u32_RB big g 32 24 24 (s.drop 32) _ HB5.out (by rw [List.length_drop, hs.out]; omega) (by omega) (by omega)).mono ?_
  rintro e w' ⟨rfl, q, rfl⟩
  have d5 : w7.cell? ⟨V, 20, none⟩ = some (.int .u32 0) := cell_of_row _ V 20 _ _ _ V7.out
  have fr5 : w7.frozen? ⟨V, 20, none⟩ = false := frozen_of_row _ V 20 _ _ V7.out
  go_wp2_with fail
  obtain ⟨w8, hw8, V8, B8, C8, R8⟩ := storedV (w0 := w) (x := .int .u32 ((num big ((s.drop 32).take 4) : Nat) : Int)) q 20 V7 B7 C7 R7 (.inr rfl) (by omega) hVM hVD
  simp only [List.setIfInBounds_toArray, List.set_cons_succ, List.set_cons_zero] at V8
  rw [← hw8]
  clear hw8 V7 B7 C7 R7 d5 fr5 HB5
  -- field 6
  have b6 : RB w8 (some ⟨g, 36, none⟩) (s.drop 36) := by
    have := B8.out.drop (c := 56) (by rw [hs.out]; omega) 36
    rwa [slA_some g 0 56 36 (by omega), Nat.zero_add] at this
  have HB6 := Lib.hid b6
  clear b6
  go_wp2_with fail
  refine (u32_RB big g 36 20 20 (s.drop 36) _ HB6.out (by rw [List.length_drop, hs.out]; omega) (by omega) (by omega)).mono ?_
  rintro e w' ⟨rfl, q, rfl⟩
  have d6 : w8.cell? ⟨V, 21, none⟩ = some (.int .u32 0) := cell_of_row _ V 21 _ _ _ V8.out
  have fr6 : w8.frozen? ⟨V, 21, none⟩ = false := frozen_of_row _ V 21 _ _ V8.out
  go_wp2_with fail
  obtain ⟨w9, hw9, V9, B9, C9, R9⟩ := storedV (w0 := w) (x := .int .u32 ((num big ((s.drop 36).take 4) : Nat) : Int)) q 21 V8 B8 C8 R8 (.inr rfl) (by omega) hVM hVD
  simp only [List.setIfInBounds_toArray, List.set_cons_succ, List.set_cons_zero] at V9
  rw [← hw9]
  clear hw9 V8 B8 C8 R8 d6 fr6 HB6
  -- field 7
  have b7 : RB w9 (some ⟨g, 40, none⟩) (s.drop 40) := by
    have := B9.out.drop (c := 56) (by rw [hs.out]; omega) 40
    rwa [slA_some g 0 56 40 (by omega), Nat.zero_add] at this
  have HB7 := Lib.hid b7
  clear b7
  go_wp2_with fail
  refine (u32_RB big g 40 16 16 (s.drop 40) _ HB7.out (by rw [List.length_drop, hs.out]; omega) (by omega) (by omega)).mono ?_
  rintro e w' ⟨rfl, q, rfl⟩
  have d7 : w9.cell? ⟨V, 22, none⟩ = some (.int .u32 0) := cell_of_row _ V 22 _ _ _ V9.out
  have fr7 : w9.frozen? ⟨V, 22, none⟩ = false := frozen_of_row _ V 22 _ _ V9.out
  go_wp2_with fail
  obtain ⟨w10, hw10, V10, B10, C10, R10⟩ := storedV (w0 := w) (x := .int .u32 ((num big ((s.drop 40).take 4) : Nat) : Int)) q 22 V9 B9 C9 R9 (.inr rfl) (by omega) hVM hVD
  simp only [List.setIfInBounds_toArray, List.set_cons_succ, List.set_cons_zero] at V10
  rw [← hw10]
  clear hw10 V9 B9 C9 R9 d7 fr7 HB7
  -- field 8
  have b8 : RB w10 (some ⟨g, 44, none⟩) (s.drop 44) := by
    have := B10.out.drop (c := 56) (by rw [hs.out]; omega) 44
    rwa [slA_some g 0 56 44 (by omega), Nat.zero_add] at this
  have HB8 := Lib.hid b8
  clear b8
  go_wp2_with fail
  refine (u32_RB big g 44 12 12 (s.drop 44) _ HB8.out (by rw [List.length_drop, hs.out]; omega) (by omega) (by omega)).mono ?_
  rintro e w' ⟨rfl, q, rfl⟩
  have d8 : w10.cell? ⟨V, 23, none⟩ = some (.int .u32 0) := cell_of_row _ V 23 _ _ _ V10.out
  have fr8 : w10.frozen? ⟨V, 23, none⟩ = false := frozen_of_row _ V 23 _ _ V10.out
  go_wp2_with fail
  obtain ⟨w11, hw11, V11, B11, C11, R11⟩ := storedV (w0 := w) (x := .int .u32 ((num big ((s.drop 44).take 4) : Nat) : Int)) q 23 V10 B10 C10 R10 (.inr rfl) (by omega) hVM hVD
  simp only [List.setIfInBounds_toArray, List.set_cons_succ, List.set_cons_zero] at V11
  rw [← hw11]
  clear hw11 V10 B10 C10 R10 d8 fr8 HB8
  -- field 9
  have b9 : RB w11 (some ⟨g, 48, none⟩) (s.drop 48) := by
    have := B11.out.drop (c := 56) (by rw [hs.out]; omega) 48
    rwa [slA_some g 0 56 48 (by omega), Nat.zero_add] at this
  have HB9 := Lib.hid b9
  clear b9
  go_wp2_with fail
  refine (u32_RB big g 48 8 8 (s.drop 48) _ HB9.out (by rw [List.length_drop, hs.out]; omega) (by omega) (by omega)).mono ?_
  rintro e w' ⟨rfl, q, rfl⟩
  have d9 : w11.cell? ⟨V, 24, none⟩ = some (.int .u32 0) := cell_of_row _ V 24 _ _ _ V11.out
  have fr9 : w11.frozen? ⟨V, 24, none⟩ = false := frozen_of_row _ V 24 _ _ V11.out
  go_wp2_with fail
  obtain ⟨w12, hw12, V12, B12, C12, R12⟩ := storedV (w0 := w) (x := .int .u32 ((num big ((s.drop 48).take 4) : Nat) : Int)) q 24 V11 B11 C11 R11 (.inr rfl) (by omega) hVM hVD
  simp only [List.setIfInBounds_toArray, List.set_cons_succ, List.set_cons_zero] at V12
  rw [← hw12]
  clear hw12 V11 B11 C11 R11 d9 fr9 HB9
  -- field 10
  have b10 : RB w12 (some ⟨g, 52, none⟩) (s.drop 52) := by
    have := B12.out.drop (c := 56) (by rw [hs.out]; omega) 52
    rwa [slA_some g 0 56 52 (by omega), Nat.zero_add] at this
  have HB10 := Lib.hid b10
  clear b10
  go_wp2_with fail
  refine (u32_RB big g 52 4 4 (s.drop 52) _ HB10.out (by rw [List.length_drop, hs.out]; omega) (by omega) (by omega)).mono ?_
  rintro e w' ⟨rfl, q, rfl⟩
  have d10 : w12.cell? ⟨V, 25, none⟩ = some (.int .u32 0) := cell_of_row _ V 25 _ _ _ V12.out
  have fr10 : w12.frozen? ⟨V, 25, none⟩ = false := frozen_of_row _ V 25 _ _ V12.out
  go_wp2
  obtain ⟨w13, hw13, V13, B13, C13, R13⟩ := storedV (w0 := w) (x := .int .u32 ((num big ((s.drop 52).take 4) : Nat) : Int)) q 25 V12 B12 C12 R12 (.inr rfl) (by omega) hVM hVD
  simp only [List.setIfInBounds_toArray, List.set_cons_succ, List.set_cons_zero] at V13
  rw [← hw13]
  clear hw13 V12 B12 C12 R12 d10 fr10 HB10
  go_ret
  exact ⟨rfl, R13, by rw [hrow.out]; exact V13, C13⟩

set_option maxRecDepth 100000 in
set_option maxHeartbeats 1000000 in
theorem readSegment32_short (V M : Nat) (rd : Value) (D : Nat → Prop) (l : List UInt8) (pos : Nat) (big : Bool) (w : World) (TE TU : TypeId) (vE vU : Value) (hErr : Hid (ErrsAt w TE TU vE vU))
    (hR : Hid (Rdr w rd M D l pos)) (hpos : Hid (l.length < pos + 56)) :
    Calls Tryd.prog 55 #[.pointer (some ⟨V, 0, none⟩), rd, .int .u8 (ordn big)] w fun e w' => (∃ T v, e = .returned (.iface T v)) ∧ Chg (fun k => k = M) w w' := by
  obtain ⟨cur, hF, hmk⟩ := makeBytes 56 (by omega)
  have hmk : ∀ w, (Instr.makeSlice 22 (.int .i64 56) (.int .i64 56)).run Tryd.prog w = .ok (.slice (some ⟨w.heap.size, 0, none⟩) 56 56) (w.alloc (.cells cur.toArray 5)) := hmk
  have hRlt : M < w.heap.size := hR.out.lt
  have hM3 : 3 ≤ M := hR.out.m3
  have g1 := Lib.hid (heap_alloc_new w (.cells cur.toArray 5))
  have c0 : Chg (fun k => k = M) w (w.alloc (.cells cur.toArray 5)) := (Chg.refl _ w).alloc _
  have R1 := Lib.hid (hR.out.later ((Below.refl _ w).alloc (Nat.le_refl _) (.cells cur.toArray 5)))
  have E1 := Lib.hid (hErr.out.chg c0 (fun e => by omega) (fun e => by omega))
  have hgD : Hid (¬ D w.heap.size) := Lib.hid (fun e => absurd (hR.out.d _ e).1 (Nat.lt_irrefl _))
  go_enter Tryd.func55, Tryd.ntmps55
  go_wp2_with fail
  refine (rdr_short rd M w.heap.size D l pos 56 5 cur _ TE TU vE vU E1 R1 hpos (by omega) (by omega) g1 hF hgD (by omega) (by omega)).mono ?_
  rintro e w2 ⟨⟨x, T, v, rfl⟩, hc2⟩
  have C2 : Chg (fun k => k = M) w w2 := c0.trans (hc2.mono fun k _ e => by rcases e with e | e <;> omega)
  clear hc2 g1 c0 R1 hmk
  go_wp2
  go_ret
  exact ⟨⟨_, _, rfl⟩, C2⟩


set_option maxRecDepth 100000 in
set_option maxHeartbeats 1000000 in
theorem zzSegment32_all (A : Option Addr) (l : List UInt8) (n c : Nat) (big : Bool) (w : World)
    (hN : Hid (n = l.length)) (hb : n ≤ 2147483647) (hZ : 56 ≤ n) (hnc : n ≤ c) (hA : Hid (RB w A l)) (hAl : ∀ a, A = some a → a.block < w.heap.size) (h3 : 3 ≤ w.heap.size) :
    Calls Tryd.prog 42 #[.int .u8 (ordn big), .slice A n c] w fun e w' => e = .returned (.tuple #[.agg (fSegment32 big (l.take 56)).toArray, .nilIface]) ∧ Below w.heap.size w w' := by
  have hV := Lib.hid (heap_alloc2_old w (.cells #[.int .u32 0, .int .u32 0, .int .u8 0, .int .u8 0, .int .u8 0, .int .u8 0, .int .u8 0, .int .u8 0, .int .u8 0, .int .u8 0, .int .u8 0, .int .u8 0, .int .u8 0, .int .u8 0, .int .u8 0, .int .u8 0, .int .u8 0, .int .u8 0, .int .u32 0, .int .u32 0, .int .u32 0, .int .u32 0, .int .u32 0, .int .u32 0, .int .u32 0, .int .u32 0] 90) (.cells #[.slice A n c, .int .i64 0, .int .i64 (-1)] 112))
  have hR := Lib.hid (Rdr.made (w := w.alloc (.cells #[.int .u32 0, .int .u32 0, .int .u8 0, .int .u8 0, .int .u8 0, .int .u8 0, .int .u8 0, .int .u8 0, .int .u8 0, .int .u8 0, .int .u8 0, .int .u8 0, .int .u8 0, .int .u8 0, .int .u8 0, .int .u8 0, .int .u8 0, .int .u8 0, .int .u32 0, .int .u32 0, .int .u32 0, .int .u32 0, .int .u32 0, .int .u32 0, .int .u32 0, .int .u32 0] 90)) hN.out hb hnc (hA.out.later ((Below.refl _ w).alloc (Nat.le_refl _) (.cells #[.int .u32 0, .int .u32 0, .int .u8 0, .int .u8 0, .int .u8 0, .int .u8 0, .int .u8 0, .int .u8 0, .int .u8 0, .int .u8 0, .int .u8 0, .int .u8 0, .int .u8 0, .int .u8 0, .int .u8 0, .int .u8 0, .int .u8 0, .int .u8 0, .int .u32 0, .int .u32 0, .int .u32 0, .int .u32 0, .int .u32 0, .int .u32 0, .int .u32 0, .int .u32 0] 90))) (fun a ha => by have := hAl a ha; simp; omega) (by simp; omega))
  simp only [World.size_alloc] at hR
  have hVD : Hid (¬ ∃ a, A = some a ∧ a.block = w.heap.size) := Lib.hid (fun ⟨a, ha, e⟩ => by have := hAl a ha; omega)
  have hb0 : Below w.heap.size w ((w.alloc (.cells #[.int .u32 0, .int .u32 0, .int .u8 0, .int .u8 0, .int .u8 0, .int .u8 0, .int .u8 0, .int .u8 0, .int .u8 0, .int .u8 0, .int .u8 0, .int .u8 0, .int .u8 0, .int .u8 0, .int .u8 0, .int .u8 0, .int .u8 0, .int .u8 0, .int .u32 0, .int .u32 0, .int .u32 0, .int .u32 0, .int .u32 0, .int .u32 0, .int .u32 0, .int .u32 0] 90)).alloc (.cells #[.slice A n c, .int .i64 0, .int .i64 (-1)] 112)) := ((Below.refl _ _).alloc (Nat.le_refl _) _).alloc (by simp) _
  have hsz : ((w.alloc (.cells #[.int .u32 0, .int .u32 0, .int .u8 0, .int .u8 0, .int .u8 0, .int .u8 0, .int .u8 0, .int .u8 0, .int .u8 0, .int .u8 0, .int .u8 0, .int .u8 0, .int .u8 0, .int .u8 0, .int .u8 0, .int .u8 0, .int .u8 0, .int .u8 0, .int .u32 0, .int .u32 0, .int .u32 0, .int .u32 0, .int .u32 0, .int .u32 0, .int .u32 0, .int .u32 0] 90)).alloc (.cells #[.slice A n c, .int .i64 0, .int .i64 (-1)] 112)).heap.size = w.heap.size + 2 := by simp
  have HS := Lib.hid hsz
  clear hsz
  have hsize := sizeSegment32 big (l.take 56) (by have := hN.out; simp; omega)
  replace hsize := Lib.hid hsize
  have hinfo : (Tryd.prog.info? 90).map (·.size) = some 26 := by kernel_rfl
  go_enter Tryd.func42, Tryd.ntmps42
  go_wp2_with fail
  refine (newReader _ A n c rfl _).mono ?_
  rintro e w' ⟨rfl, rfl⟩
  go_wp2_with fail
  refine (readSegment32_all w.heap.size (w.heap.size + 1) _ _ l 0 big 90 _ hR (Lib.hid (by have := hN.out; omega)) (by omega) hVD hV).mono ?_
  rintro e w3 ⟨rfl, R3, V3, C3⟩
  rw [List.drop_zero] at V3
  have hb3 : Below w.heap.size w w3 := hb0.trans (C3.below (by rw [HS.out]; omega) (fun k hk e => by rcases e with e | e <;> omega))
  clear R3 C3 hb0
  go_wp2_with (first | (refine wpList_load_row rfl 90 _ rfl w.heap.size rfl 90 (fSegment32 big (l.take 56)).toArray (0, 0) _ V3.out Tryd.underlying90 rfl (by rw [hsize.out]; exact hinfo) ?_) | (refine wpList_store_self rfl 90 _ _ rfl w.heap.size 90 (fSegment32 big (l.take 56)).toArray rfl rfl V3.out (by rw [hsize.out]; exact hinfo) (oneSegment32 big _) ?_))
  exact bodyPost_ret (results_cell_tmp rfl _ _ w.heap.size 90 (fSegment32 big (l.take 56)).toArray (0, 0) _ rfl V3.out Tryd.underlying90 rfl (by rw [hsize.out]; exact hinfo)) rfl ⟨rfl, hb3⟩

set_option maxRecDepth 100000 in
set_option maxHeartbeats 1000000 in
theorem zzSegment32_short (A : Option Addr) (l : List UInt8) (n c : Nat) (big : Bool) (w : World) (TE TU : TypeId) (vE vU : Value) (hErr : Hid (ErrsAt w TE TU vE vU)) (h3 : 3 ≤ w.heap.size)
    (hN : Hid (n = l.length)) (hb : n ≤ 2147483647) (hZ : n < 56) (hnc : n ≤ c) (hA : Hid (RB w A l)) (hAl : ∀ a, A = some a → a.block < w.heap.size) :
    Calls Tryd.prog 42 #[.int .u8 (ordn big), .slice A n c] w fun e w' => (∃ T v, e = .returned (.tuple #[.agg #[.int .u32 0, .int .u32 0, .int .u8 0, .int .u8 0, .int .u8 0, .int .u8 0, .int .u8 0, .int .u8 0, .int .u8 0, .int .u8 0, .int .u8 0, .int .u8 0, .int .u8 0, .int .u8 0, .int .u8 0, .int .u8 0, .int .u8 0, .int .u8 0, .int .u32 0, .int .u32 0, .int .u32 0, .int .u32 0, .int .u32 0, .int .u32 0, .int .u32 0, .int .u32 0], .iface T v])) ∧ Below w.heap.size w w' := by
  have hV := Lib.hid (heap_alloc2_old w (.cells #[.int .u32 0, .int .u32 0, .int .u8 0, .int .u8 0, .int .u8 0, .int .u8 0, .int .u8 0, .int .u8 0, .int .u8 0, .int .u8 0, .int .u8 0, .int .u8 0, .int .u8 0, .int .u8 0, .int .u8 0, .int .u8 0, .int .u8 0, .int .u8 0, .int .u32 0, .int .u32 0, .int .u32 0, .int .u32 0, .int .u32 0, .int .u32 0, .int .u32 0, .int .u32 0] 90) (.cells #[.slice A n c, .int .i64 0, .int .i64 (-1)] 112))
  have hR := Lib.hid (Rdr.made (w := w.alloc (.cells #[.int .u32 0, .int .u32 0, .int .u8 0, .int .u8 0, .int .u8 0, .int .u8 0, .int .u8 0, .int .u8 0, .int .u8 0, .int .u8 0, .int .u8 0, .int .u8 0, .int .u8 0, .int .u8 0, .int .u8 0, .int .u8 0, .int .u8 0, .int .u8 0, .int .u32 0, .int .u32 0, .int .u32 0, .int .u32 0, .int .u32 0, .int .u32 0, .int .u32 0, .int .u32 0] 90)) hN.out hb hnc (hA.out.later ((Below.refl _ w).alloc (Nat.le_refl _) (.cells #[.int .u32 0, .int .u32 0, .int .u8 0, .int .u8 0, .int .u8 0, .int .u8 0, .int .u8 0, .int .u8 0, .int .u8 0, .int .u8 0, .int .u8 0, .int .u8 0, .int .u8 0, .int .u8 0, .int .u8 0, .int .u8 0, .int .u8 0, .int .u8 0, .int .u32 0, .int .u32 0, .int .u32 0, .int .u32 0, .int .u32 0, .int .u32 0, .int .u32 0, .int .u32 0] 90))) (fun a ha => by have := hAl a ha; simp; omega) (by simp; omega))
  simp only [World.size_alloc] at hR
  have hVD : Hid (¬ ∃ a, A = some a ∧ a.block = w.heap.size) := Lib.hid (fun ⟨a, ha, e⟩ => by have := hAl a ha; omega)
  have hb0 : Below w.heap.size w ((w.alloc (.cells #[.int .u32 0, .int .u32 0, .int .u8 0, .int .u8 0, .int .u8 0, .int .u8 0, .int .u8 0, .int .u8 0, .int .u8 0, .int .u8 0, .int .u8 0, .int .u8 0, .int .u8 0, .int .u8 0, .int .u8 0, .int .u8 0, .int .u8 0, .int .u8 0, .int .u32 0, .int .u32 0, .int .u32 0, .int .u32 0, .int .u32 0, .int .u32 0, .int .u32 0, .int .u32 0] 90)).alloc (.cells #[.slice A n c, .int .i64 0, .int .i64 (-1)] 112)) := ((Below.refl _ _).alloc (Nat.le_refl _) _).alloc (by simp) _
  have hsz : ((w.alloc (.cells #[.int .u32 0, .int .u32 0, .int .u8 0, .int .u8 0, .int .u8 0, .int .u8 0, .int .u8 0, .int .u8 0, .int .u8 0, .int .u8 0, .int .u8 0, .int .u8 0, .int .u8 0, .int .u8 0, .int .u8 0, .int .u8 0, .int .u8 0, .int .u8 0, .int .u32 0, .int .u32 0, .int .u32 0, .int .u32 0, .int .u32 0, .int .u32 0, .int .u32 0, .int .u32 0] 90)).alloc (.cells #[.slice A n c, .int .i64 0, .int .i64 (-1)] 112)).heap.size = w.heap.size + 2 := by simp
  have HS := Lib.hid hsz
  clear hsz
  have hE2 := Lib.hid (hErr.out.chg (Chg.of_below (S := fun k => w.heap.size ≤ k) hb0 (fun k _ h => h)) (by omega) (by omega))
  go_enter Tryd.func42, Tryd.ntmps42
  go_wp2_with fail
  refine (newReader _ A n c rfl _).mono ?_
  rintro e w' ⟨rfl, rfl⟩
  go_wp2_with fail
  refine (readSegment32_short w.heap.size (w.heap.size + 1) _ _ l 0 big _ TE TU vE vU hE2 hR (Lib.hid (by have := hN.out; omega))).mono ?_
  rintro e w3 ⟨⟨TX, vX, rfl⟩, C3⟩
  have V3 : Hid (w3.heap[w.heap.size]? = some (.cells #[.int .u32 0, .int .u32 0, .int .u8 0, .int .u8 0, .int .u8 0, .int .u8 0, .int .u8 0, .int .u8 0, .int .u8 0, .int .u8 0, .int .u8 0, .int .u8 0, .int .u8 0, .int .u8 0, .int .u8 0, .int .u8 0, .int .u8 0, .int .u8 0, .int .u32 0, .int .u32 0, .int .u32 0, .int .u32 0, .int .u32 0, .int .u32 0, .int .u32 0, .int .u32 0] 90 (0, 0))) := Lib.hid (C3.row hV.out (by omega))
  have hb3 : Below w.heap.size w w3 := hb0.trans (C3.below (by rw [HS.out]; omega) (fun k hk e => by omega))
  clear C3 hb0
  go_wp2_with (first | (refine wpList_load_row rfl 90 _ rfl w.heap.size rfl 90 #[.int .u32 0, .int .u32 0, .int .u8 0, .int .u8 0, .int .u8 0, .int .u8 0, .int .u8 0, .int .u8 0, .int .u8 0, .int .u8 0, .int .u8 0, .int .u8 0, .int .u8 0, .int .u8 0, .int .u8 0, .int .u8 0, .int .u8 0, .int .u8 0, .int .u32 0, .int .u32 0, .int .u32 0, .int .u32 0, .int .u32 0, .int .u32 0, .int .u32 0, .int .u32 0] (0, 0) _ V3.out Tryd.underlying90 rfl (by kernel_rfl) ?_) | (refine wpList_store_self rfl 90 _ _ rfl w.heap.size 90 #[.int .u32 0, .int .u32 0, .int .u8 0, .int .u8 0, .int .u8 0, .int .u8 0, .int .u8 0, .int .u8 0, .int .u8 0, .int .u8 0, .int .u8 0, .int .u8 0, .int .u8 0, .int .u8 0, .int .u8 0, .int .u8 0, .int .u8 0, .int .u8 0, .int .u32 0, .int .u32 0, .int .u32 0, .int .u32 0, .int .u32 0, .int .u32 0, .int .u32 0, .int .u32 0] rfl rfl V3.out (by kernel_rfl) (List.all_eq_true.1 rfl) ?_))
  exact bodyPost_ret (results_cell_tmp rfl _ _ w.heap.size 90 #[.int .u32 0, .int .u32 0, .int .u8 0, .int .u8 0, .int .u8 0, .int .u8 0, .int .u8 0, .int .u8 0, .int .u8 0, .int .u8 0, .int .u8 0, .int .u8 0, .int .u8 0, .int .u8 0, .int .u8 0, .int .u8 0, .int .u8 0, .int .u8 0, .int .u32 0, .int .u32 0, .int .u32 0, .int .u32 0, .int .u32 0, .int .u32 0, .int .u32 0, .int .u32 0] (0, 0) _ rfl V3.out Tryd.underlying90 rfl (by kernel_rfl)) rfl ⟨⟨_, _, rfl⟩, hb3⟩

end Go.Proofs.YtcdknbclhdllkaaDoor
