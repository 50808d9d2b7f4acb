/-
  The contracts of the functions that read the struct Section32 (read).
-/
import Derived.Test.YtcdknbclhdllkaaDoorOrd
import Derived.Test.YtcdknbclhdllkaaDoorRdr
import Derived.Test.YtcdknbclhdllkaaDoorRow
import Derived.Test.YtcdknbclhdllkaaDoorName
import Derived.Test.YtcdknbclhdllkaaDoorNum1
namespace Go.Proofs.YtcdknbclhdllkaaDoor
set_option linter.unusedVariables false
set_option linter.unusedSimpArgs false
open Go Go.RowKit
attribute [local go_sem ↓] Go.wp_at_zero Go.wp_at_succ

/-- The fields of Section32 out of its bytes. -/
def fSection32 (big : Bool) (s : List UInt8) : List Value := (s.take 16).map bv ++ (((s.drop 16).take 16).map bv ++ ([.int .u32 ((num big ((s.drop 32).take 4) : Nat) : Int), .int .u32 ((num big ((s.drop 36).take 4) : Nat) : Int), .int .u32 ((num big ((s.drop 40).take 4) : Nat) : Int), .int .u32 ((num big ((s.drop 44).take 4) : Nat) : Int), .int .u32 ((num big ((s.drop 48).take 4) : Nat) : Int), .int .u32 ((num big ((s.drop 52).take 4) : Nat) : Int), .int .u32 ((num big ((s.drop 56).take 4) : Nat) : Int), .int .u32 ((num big ((s.drop 60).take 4) : Nat) : Int), .int .u32 ((num big ((s.drop 64).take 4) : Nat) : Int)]))
theorem fSection32_row (big : Bool) (s : List UInt8) (h : s.length = 68) : ∃ y0_0 y0_1 y0_2 y0_3 y0_4 y0_5 y0_6 y0_7 y0_8 y0_9 y0_10 y0_11 y0_12 y0_13 y0_14 y0_15 y1_0 y1_1 y1_2 y1_3 y1_4 y1_5 y1_6 y1_7 y1_8 y1_9 y1_10 y1_11 y1_12 y1_13 y1_14 y1_15, (s.take 16) = [y0_0, y0_1, y0_2, y0_3, y0_4, y0_5, y0_6, y0_7, y0_8, y0_9, y0_10, y0_11, y0_12, y0_13, y0_14, y0_15] ∧ ((s.drop 16).take 16) = [y1_0, y1_1, y1_2, y1_3, y1_4, y1_5, y1_6, y1_7, y1_8, y1_9, y1_10, y1_11, y1_12, y1_13, y1_14, y1_15] ∧ fSection32 big s = [bv y0_0, bv y0_1, bv y0_2, bv y0_3, bv y0_4, bv y0_5, bv y0_6, bv y0_7, bv y0_8, bv y0_9, bv y0_10, bv y0_11, bv y0_12, bv y0_13, bv y0_14, bv y0_15, bv y1_0, bv y1_1, bv y1_2, bv y1_3, bv y1_4, bv y1_5, bv y1_6, bv y1_7, bv y1_8, bv y1_9, bv y1_10, bv y1_11, bv y1_12, bv y1_13, bv y1_14, bv y1_15, .int .u32 ((num big ((s.drop 32).take 4) : Nat) : Int), .int .u32 ((num big ((s.drop 36).take 4) : Nat) : Int), .int .u32 ((num big ((s.drop 40).take 4) : Nat) : Int), .int .u32 ((num big ((s.drop 44).take 4) : Nat) : Int), .int .u32 ((num big ((s.drop 48).take 4) : Nat) : Int), .int .u32 ((num big ((s.drop 52).take 4) : Nat) : Int), .int .u32 ((num big ((s.drop 56).take 4) : Nat) : Int), .int .u32 ((num big ((s.drop 60).take 4) : Nat) : Int), .int .u32 ((num big ((s.drop 64).take 4) : Nat) : Int)] := by
  obtain ⟨y0_0, y0_1, y0_2, y0_3, y0_4, y0_5, y0_6, y0_7, y0_8, y0_9, y0_10, y0_11, y0_12, y0_13, y0_14, y0_15, hy0⟩ := name16 (show (s.take 16).length = 16 by simp; omega)
  obtain ⟨y1_0, y1_1, y1_2, y1_3, y1_4, y1_5, y1_6, y1_7, y1_8, y1_9, y1_10, y1_11, y1_12, y1_13, y1_14, y1_15, hy1⟩ := name16 (show ((s.drop 16).take 16).length = 16 by simp; omega)
  exact ⟨y0_0, y0_1, y0_2, y0_3, y0_4, y0_5, y0_6, y0_7, y0_8, y0_9, y0_10, y0_11, y0_12, y0_13, y0_14, y0_15, y1_0, y1_1, y1_2, y1_3, y1_4, y1_5, y1_6, y1_7, y1_8, y1_9, y1_10, y1_11, y1_12, y1_13, y1_14, y1_15, hy0, hy1, by unfold fSection32; simp only [hy0, hy1]; rfl⟩
theorem oneSection32 (big : Bool) (s : List UInt8) : ∀ v ∈ (fSection32 big s).toArray.toList, v.oneCell' = true := by
  refine List.all_eq_true.1 (show (fSection32 big s).all (·.oneCell') = true from ?_)
  simp only [fSection32, List.all_append, all_bv]
  rfl
theorem sizeSection32 (big : Bool) (s : List UInt8) (h : s.length = 68) : (fSection32 big s).toArray.size = 41 := by
  first | (simp [fSection32]; done) | (simp [fSection32]; omega)

set_option maxRecDepth 100000 in
set_option maxHeartbeats 2000000 in
theorem readSection32_all (V M : Nat) (rd : Value) (D : Nat → Prop) (l : List UInt8) (pos : Nat) (big : Bool) (TV : TypeId) (w : World)
    (hR : Hid (Rdr w rd M D l pos)) (hpos : Hid (pos + 68 ≤ l.length)) (hVM : V ≠ M) (hVD : Hid (¬ D V))
    (hV : Hid (w.heap[V]? = some (.cells #[.int .u8 0, .int .u8 0, .int .u8 0, .int .u8 0, .int .u8 0, .int .u8 0, .int .u8 0, .int .u8 0, .int .u8 0, .int .u8 0, .int .u8 0, .int .u8 0, .int .u8 0, .int .u8 0, .int .u8 0, .int .u8 0, .int .u8 0, .int .u8 0, .int .u8 0, .int .u8 0, .int .u8 0, .int .u8 0, .int .u8 0, .int .u8 0, .int .u8 0, .int .u8 0, .int .u8 0, .int .u8 0, .int .u8 0, .int .u8 0, .int .u8 0, .int .u8 0, .int .u32 0, .int .u32 0, .int .u32 0, .int .u32 0, .int .u32 0, .int .u32 0, .int .u32 0, .int .u32 0, .int .u32 0] TV (0, 0)))) :
    Calls Tryd.prog 57 #[.pointer (some ⟨V, 0, none⟩), rd, .int .u8 (ordn big)] w fun e w' => e = .returned .nilIface ∧
      Hid (Rdr w' rd M D l (pos + 68)) ∧ Hid (w'.heap[V]? = some (.cells (fSection32 big ((l.drop pos).take 68)).toArray TV (0, 0))) ∧ Chg (fun k => k = M ∨ k = V) w w' := by
  obtain ⟨cur, hF, hmk⟩ := makeBytes 68 (by omega)
  have hmk : ∀ w, (Instr.makeSlice 22 (.int .i64 68) (.int .i64 68)).run Tryd.prog w = .ok (.slice (some ⟨w.heap.size, 0, none⟩) 68 68) (w.alloc (.cells cur.toArray 5)) := hmk
  have hRlt : M < w.heap.size := hR.out.lt
  have hVlt : V < w.heap.size := (Array.getElem?_eq_some_iff.1 hV.out).1
  have hs := Lib.hid (show ((l.drop pos).take 68).length = 68 by have := hpos.out; simp; omega)
  have g1 := Lib.hid (heap_alloc_new w (.cells cur.toArray 5))
  have c0 : Chg (fun k => k = M ∨ k = V) w (w.alloc (.cells cur.toArray 5)) := (Chg.refl _ w).alloc _
  have V1 := Lib.hid ((Below.heap_alloc w (.cells cur.toArray 5) V hVlt).trans hV.out)
  have R1 := Lib.hid (hR.out.later ((Below.refl _ w).alloc (Nat.le_refl _) (.cells cur.toArray 5)))
  have hgD : Hid (¬ D w.heap.size) := Lib.hid (fun e => absurd (hR.out.d _ e).1 (Nat.lt_irrefl _))
  obtain ⟨s, hS⟩ : ∃ s, (l.drop pos).take 68 = s := ⟨_, rfl⟩
  rw [hS] at hs ⊢
  have HS := Lib.hid hS
  clear hS
  obtain ⟨y0_0, y0_1, y0_2, y0_3, y0_4, y0_5, y0_6, y0_7, y0_8, y0_9, y0_10, y0_11, y0_12, y0_13, y0_14, y0_15, y1_0, y1_1, y1_2, y1_3, y1_4, y1_5, y1_6, y1_7, y1_8, y1_9, y1_10, y1_11, y1_12, y1_13, y1_14, y1_15, hy0, hy1, hrow⟩ := fSection32_row big s hs.out
  replace hrow := Lib.hid hrow
  replace hy0 := Lib.hid hy0
  replace hy1 := Lib.hid hy1
  go_enter Tryd.func57, Tryd.ntmps57
  go_wp2_with fail
  refine (rdr_full rd M w.heap.size D l pos 68 5 cur _ R1 hpos (by omega) g1 hF hgD (by omega)).mono ?_
  rintro e w2 ⟨rfl, R2, g2, hc2, hs2⟩
  rw [HS.out] at g2
  have V2 : Hid (w2.heap[V]? = some (.cells #[.int .u8 0, .int .u8 0, .int .u8 0, .int .u8 0, .int .u8 0, .int .u8 0, .int .u8 0, .int .u8 0, .int .u8 0, .int .u8 0, .int .u8 0, .int .u8 0, .int .u8 0, .int .u8 0, .int .u8 0, .int .u8 0, .int .u8 0, .int .u8 0, .int .u8 0, .int .u8 0, .int .u8 0, .int .u8 0, .int .u8 0, .int .u8 0, .int .u8 0, .int .u8 0, .int .u8 0, .int .u8 0, .int .u8 0, .int .u8 0, .int .u8 0, .int .u8 0, .int .u32 0, .int .u32 0, .int .u32 0, .int .u32 0, .int .u32 0, .int .u32 0, .int .u32 0, .int .u32 0, .int .u32 0] TV (0, 0))) := Lib.hid (hc2.row V1.out (by omega))
  have B2 : Hid (RB w2 (some ⟨w.heap.size, 0, none⟩) s) := Lib.hid (RB.of_row g2.out)
  have C2 : Chg (fun k => k = M ∨ k = V) w w2 := c0.trans (hc2.mono fun k _ e => by rcases e with e | e <;> omega)
  clear hs2 hc2 g2 g1 c0 V1 R1 hmk hgD
  generalize w.heap.size = g at *
  -- field 0: a name
  have b0 : RB w2 (some ⟨g, 0, none⟩) [y0_0, y0_1, y0_2, y0_3, y0_4, y0_5, y0_6, y0_7, y0_8, y0_9, y0_10, y0_11, y0_12, y0_13, y0_14, y0_15] := by
    have := (B2.out.drop (c := 68) (by rw [hs.out]; omega) 0).take 16
    rwa [slA_some g 0 68 0 (by omega), Nat.zero_add, List.drop_zero, hy0.out] at this
  have HB0 := Lib.hid b0
  clear b0
  go_wp2
  go_region_held3 (fun _ => True) (trivial)
    ((refine step_copy_bytes (by rfl) _ _ _ _ (by rfl) 5 Tryd.underlying22 Tryd.sizeByte V 0 16 16 (some ⟨g, 0, none⟩) 16 68 (by rfl) (by rfl) [.int .u8 0, .int .u8 0, .int .u8 0, .int .u8 0, .int .u8 0, .int .u8 0, .int .u8 0, .int .u8 0, .int .u8 0, .int .u8 0, .int .u8 0, .int .u8 0, .int .u8 0, .int .u8 0, .int .u8 0, .int .u8 0, .int .u8 0, .int .u8 0, .int .u8 0, .int .u8 0, .int .u8 0, .int .u8 0, .int .u8 0, .int .u8 0, .int .u8 0, .int .u8 0, .int .u8 0, .int .u8 0, .int .u8 0, .int .u8 0, .int .u8 0, .int .u8 0, .int .u32 0, .int .u32 0, .int .u32 0, .int .u32 0, .int .u32 0, .int .u32 0, .int .u32 0, .int .u32 0, .int .u32 0] TV (by exact V2) [y0_0, y0_1, y0_2, y0_3, y0_4, y0_5, y0_6, y0_7, y0_8, y0_9, y0_10, y0_11, y0_12, y0_13, y0_14, y0_15] rfl (by exact HB0.out) (by decide) (by simp) ?_; intro w3 V3' hc0 hz0))
  replace V3' : Hid (w3.heap[V]? = some (.cells #[bv y0_0, bv y0_1, bv y0_2, bv y0_3, bv y0_4, bv y0_5, bv y0_6, bv y0_7, bv y0_8, bv y0_9, bv y0_10, bv y0_11, bv y0_12, bv y0_13, bv y0_14, bv y0_15, .int .u8 0, .int .u8 0, .int .u8 0, .int .u8 0, .int .u8 0, .int .u8 0, .int .u8 0, .int .u8 0, .int .u8 0, .int .u8 0, .int .u8 0, .int .u8 0, .int .u8 0, .int .u8 0, .int .u8 0, .int .u8 0, .int .u32 0, .int .u32 0, .int .u32 0, .int .u32 0, .int .u32 0, .int .u32 0, .int .u32 0, .int .u32 0, .int .u32 0] TV (0, 0))) := V3'
  have V3 := V3'
  replace hc0 : Chg (· = V) w2 w3 := ⟨hc0.os, hc0.tape, hc0.output, hc0.size, hc0.block⟩
  obtain ⟨B3, C3, R3⟩ := writtenV (w0 := w) hc0 B2 C2 R2 (.inr rfl) (by omega) hVM hVD
  clear V3' hc0 hz0 HB0 V2 B2 C2 R2
  -- field 1: a name
  have b1 : RB w3 (some ⟨g, 16, none⟩) [y1_0, y1_1, y1_2, y1_3, y1_4, y1_5, y1_6, y1_7, y1_8, y1_9, y1_10, y1_11, y1_12, y1_13, y1_14, y1_15] := by
    have := (B3.out.drop (c := 68) (by rw [hs.out]; omega) 16).take 16
    rwa [slA_some g 0 68 16 (by omega), Nat.zero_add, hy1.out] at this
  have HB1 := Lib.hid b1
  clear b1
  go_wp2
  go_region_held3 (fun _ => True) (trivial)
    ((refine step_copy_bytes (by rfl) _ _ _ _ (by rfl) 5 Tryd.underlying22 Tryd.sizeByte V 16 16 16 (some ⟨g, 16, none⟩) 16 52 (by rfl) (by rfl) [bv y0_0, bv y0_1, bv y0_2, bv y0_3, bv y0_4, bv y0_5, bv y0_6, bv y0_7, bv y0_8, bv y0_9, bv y0_10, bv y0_11, bv y0_12, bv y0_13, bv y0_14, bv y0_15, .int .u8 0, .int .u8 0, .int .u8 0, .int .u8 0, .int .u8 0, .int .u8 0, .int .u8 0, .int .u8 0, .int .u8 0, .int .u8 0, .int .u8 0, .int .u8 0, .int .u8 0, .int .u8 0, .int .u8 0, .int .u8 0, .int .u32 0, .int .u32 0, .int .u32 0, .int .u32 0, .int .u32 0, .int .u32 0, .int .u32 0, .int .u32 0, .int .u32 0] TV (by exact V3) [y1_0, y1_1, y1_2, y1_3, y1_4, y1_5, y1_6, y1_7, y1_8, y1_9, y1_10, y1_11, y1_12, y1_13, y1_14, y1_15] rfl (by exact HB1.out) (by decide) (by simp) ?_; intro w4 V4' hc1 hz1))
  replace V4' : Hid (w4.heap[V]? = some (.cells #[bv y0_0, bv y0_1, bv y0_2, bv y0_3, bv y0_4, bv y0_5, bv y0_6, bv y0_7, bv y0_8, bv y0_9, bv y0_10, bv y0_11, bv y0_12, bv y0_13, bv y0_14, bv y0_15, bv y1_0, bv y1_1, bv y1_2, bv y1_3, bv y1_4, bv y1_5, bv y1_6, bv y1_7, bv y1_8, bv y1_9, bv y1_10, bv y1_11, bv y1_12, bv y1_13, bv y1_14, bv y1_15, .int .u32 0, .int .u32 0, .int .u32 0, .int .u32 0, .int .u32 0, .int .u32 0, .int .u32 0, .int .u32 0, .int .u32 0] TV (0, 0))) := V4'
  have V4 := V4'
  replace hc1 : Chg (· = V) w3 w4 := ⟨hc1.os, hc1.tape, hc1.output, hc1.size, hc1.block⟩
  obtain ⟨B4, C4, R4⟩ := writtenV (w0 := w) hc1 B3 C3 R3 (.inr rfl) (by omega) hVM hVD
  clear V4' hc1 hz1 HB1 V3 B3 C3 R3
  -- field 2
  have b2 : RB w4 (some ⟨g, 32, none⟩) (s.drop 32) := by
    have := B4.out.drop (c := 68) (by rw [hs.out]; omega) 32
    rwa [slA_some g 0 68 32 (by omega), Nat.zero_add] at this
  have HB2 := Lib.hid b2
  clear b2
  go_wp2_with fail
  refine (u32_RB big g 32 36 36 (s.drop 32) _ HB2.out (by rw [List.length_drop, hs.out]; omega) (by omega) (by omega)).mono ?_
  rintro e w' ⟨rfl, q, rfl⟩
  have d2 : w4.cell? ⟨V, 32, none⟩ = some (.int .u32 0) := cell_of_row _ V 32 _ _ _ V4.out
  have fr2 : w4.frozen? ⟨V, 32, none⟩ = false := frozen_of_row _ V 32 _ _ V4.out
  go_wp2_with fail
  obtain ⟨w5, hw5, V5, B5, C5, R5⟩ := storedV (w0 := w) (x := .int .u32 ((num big ((s.drop 32).take 4) : Nat) : Int)) q 32 V4 B4 C4 R4 (.inr rfl) (by omega) hVM hVD
  simp only [List.setIfInBounds_toArray, List.set_cons_succ, List.set_cons_zero] at V5
  rw [← hw5]
  clear hw5 V4 B4 C4 R4 d2 fr2 HB2
  -- field 3
  have b3 : RB w5 (some ⟨g, 36, none⟩) (s.drop 36) := by
    have := B5.out.drop (c := 68) (by rw [hs.out]; omega) 36
    rwa [slA_some g 0 68 36 (by omega), Nat.zero_add] at this
  have HB3 := Lib.hid b3
  clear b3
  go_wp2_with fail
  refine (u32_RB big g 36 32 32 (s.drop 36) _ HB3.out (by rw [List.length_drop, hs.out]; omega) (by omega) (by omega)).mono ?_
  rintro e w' ⟨rfl, q, rfl⟩
  have d3 : w5.cell? ⟨V, 33, none⟩ = some (.int .u32 0) := cell_of_row _ V 33 _ _ _ V5.out
  have fr3 : w5.frozen? ⟨V, 33, none⟩ = false := frozen_of_row _ V 33 _ _ V5.out
  go_wp2_with fail
  obtain ⟨w6, hw6, V6, B6, C6, R6⟩ := storedV (w0 := w) (x := .int .u32 ((num big ((s.drop 36).take 4) : Nat) : Int)) q 33 V5 B5 C5 R5 (.inr rfl) (by omega) hVM hVD
  simp only [List.setIfInBounds_toArray, List.set_cons_succ, List.set_cons_zero] at V6
  rw [← hw6]
  clear hw6 V5 B5 C5 R5 d3 fr3 HB3
  -- field 4
  have b4 : RB w6 (some ⟨g, 40, none⟩) (s.drop 40) := by
    have := B6.out.drop (c := 68) (by rw [hs.out]; omega) 40
    rwa [slA_some g 0 68 40 (by omega), Nat.zero_add] at this
  have HB4 := Lib.hid b4
  clear b4
  go_wp2_with fail
  refine (u32_RB big g 40 28 28 (s.drop 40) _ HB4.out (by rw [List.length_drop, hs.out]; omega) (by omega) (by omega)).mono ?_
  rintro e w' ⟨rfl, q, rfl⟩
  have d4 : w6.cell? ⟨V, 34, none⟩ = some (.int .u32 0) := cell_of_row _ V 34 _ _ _ V6.out
  have fr4 : w6.frozen? ⟨V, 34, none⟩ = false := frozen_of_row _ V 34 _ _ V6.out
  go_wp2_with fail
  obtain ⟨w7, hw7, V7, B7, C7, R7⟩ := storedV (w0 := w) (x := .int .u32 ((num big ((s.drop 40).take 4) : Nat) : Int)) q 34 V6 B6 C6 R6 (.inr rfl) (by omega) hVM hVD
  simp only [List.setIfInBounds_toArray, List.set_cons_succ, List.set_cons_zero] at V7
  rw [← hw7]
  clear hw7 V6 B6 C6 R6 d4 fr4 HB4
  -- field 5
  have b5 : RB w7 (some ⟨g, 44, none⟩) (s.drop 44) := by
    have := B7.out.drop (c := 68) (by rw [hs.out]; omega) 44
    rwa [slA_some g 0 68 44 (by omega), Nat.zero_add] at this
  have HB5 := Lib.hid b5
  clear b5
  go_wp2_with fail
  refine (u32_RB big g 44 24 24 (s.drop 44) _ HB5.out (by rw [List.length_drop, hs.out]; omega) (by omega) (by omega)).mono ?_
  rintro e w' ⟨rfl, q, rfl⟩
  have d5 : w7.cell? ⟨V, 35, none⟩ = some (.int .u32 0) := cell_of_row _ V 35 _ _ _ V7.out
  have fr5 : w7.frozen? ⟨V, 35, none⟩ = false := frozen_of_row _ V 35 _ _ V7.out
  go_wp2_with fail
  obtain ⟨w8, hw8, V8, B8, C8, R8⟩ := storedV (w0 := w) (x := .int .u32 ((num big ((s.drop 44).take 4) : Nat) : Int)) q 35 V7 B7 C7 R7 (.inr rfl) (by omega) hVM hVD
  simp only [List.setIfInBounds_toArray, List.set_cons_succ, List.set_cons_zero] at V8
  rw [← hw8]
  clear hw8 V7 B7 C7 R7 d5 fr5 HB5
  -- field 6
  have b6 : RB w8 (some ⟨g, 48, none⟩) (s.drop 48) := by
    have := B8.out.drop (c := 68) (by rw [hs.out]; omega) 48
    rwa [slA_some g 0 68 48 (by omega), Nat.zero_add] at this
  have HB6 := Lib.hid b6
  clear b6
  go_wp2_with fail
  refine (u32_RB big g 48 20 20 (s.drop 48) _ HB6.out (by rw [List.length_drop, hs.out]; omega) (by omega) (by omega)).mono ?_
  rintro e w' ⟨rfl, q, rfl⟩
  have d6 : w8.cell? ⟨V, 36, none⟩ = some (.int .u32 0) := cell_of_row _ V 36 _ _ _ V8.out
  have fr6 : w8.frozen? ⟨V, 36, none⟩ = false := frozen_of_row _ V 36 _ _ V8.out
  go_wp2_with fail
  obtain ⟨w9, hw9, V9, B9, C9, R9⟩ := storedV (w0 := w) (x := .int .u32 ((num big ((s.drop 48).take 4) : Nat) : Int)) q 36 V8 B8 C8 R8 (.inr rfl) (by omega) hVM hVD
  simp only [List.setIfInBounds_toArray, List.set_cons_succ, List.set_cons_zero] at V9
  rw [← hw9]
  clear hw9 V8 B8 C8 R8 d6 fr6 HB6
  -- field 7
  have b7 : RB w9 (some ⟨g, 52, none⟩) (s.drop 52) := by
    have := B9.out.drop (c := 68) (by rw [hs.out]; omega) 52
    rwa [slA_some g 0 68 52 (by omega), Nat.zero_add] at this
  have HB7 := Lib.hid b7
  clear b7
  go_wp2_with fail
  refine (u32_RB big g 52 16 16 (s.drop 52) _ HB7.out (by rw [List.length_drop, hs.out]; omega) (by omega) (by omega)).mono ?_
  rintro e w' ⟨rfl, q, rfl⟩
  have d7 : w9.cell? ⟨V, 37, none⟩ = some (.int .u32 0) := cell_of_row _ V 37 _ _ _ V9.out
  have fr7 : w9.frozen? ⟨V, 37, none⟩ = false := frozen_of_row _ V 37 _ _ V9.out
  go_wp2_with fail
  obtain ⟨w10, hw10, V10, B10, C10, R10⟩ := storedV (w0 := w) (x := .int .u32 ((num big ((s.drop 52).take 4) : Nat) : Int)) q 37 V9 B9 C9 R9 (.inr rfl) (by omega) hVM hVD
  simp only [List.setIfInBounds_toArray, List.set_cons_succ, List.set_cons_zero] at V10
  rw [← hw10]
  clear hw10 V9 B9 C9 R9 d7 fr7 HB7
  -- field 8
  have b8 : RB w10 (some ⟨g, 56, none⟩) (s.drop 56) := by
    have := B10.out.drop (c := 68) (by rw [hs.out]; omega) 56
    rwa [slA_some g 0 68 56 (by omega), Nat.zero_add] at this
  have HB8 := Lib.hid b8
  clear b8
  go_wp2_with fail
  refine (u32_RB big g 56 12 12 (s.drop 56) _ HB8.out (by rw [List.length_drop, hs.out]; omega) (by omega) (by omega)).mono ?_
  rintro e w' ⟨rfl, q, rfl⟩
  have d8 : w10.cell? ⟨V, 38, none⟩ = some (.int .u32 0) := cell_of_row _ V 38 _ _ _ V10.out
  have fr8 : w10.frozen? ⟨V, 38, none⟩ = false := frozen_of_row _ V 38 _ _ V10.out
  go_wp2_with fail
  obtain ⟨w11, hw11, V11, B11, C11, R11⟩ := storedV (w0 := w) (x := .int .u32 ((num big ((s.drop 56).take 4) : Nat) : Int)) q 38 V10 B10 C10 R10 (.inr rfl) (by omega) hVM hVD
  simp only [List.setIfInBounds_toArray, List.set_cons_succ, List.set_cons_zero] at V11
  rw [← hw11]
  clear hw11 V10 B10 C10 R10 d8 fr8 HB8
  -- field 9
  have b9 : RB w11 (some ⟨g, 60, none⟩) (s.drop 60) := by
    have := B11.out.drop (c := 68) (by rw [hs.out]; omega) 60
    rwa [slA_some g 0 68 60 (by omega), Nat.zero_add] at this
  have HB9 := Lib.hid b9
  clear b9
  go_wp2_with fail
  refine (u32_RB big g 60 8 8 (s.drop 60) _ HB9.out (by rw [List.length_drop, hs.out]; omega) (by omega) (by omega)).mono ?_
  rintro e w' ⟨rfl, q, rfl⟩
  have d9 : w11.cell? ⟨V, 39, none⟩ = some (.int .u32 0) := cell_of_row _ V 39 _ _ _ V11.out
  have fr9 : w11.frozen? ⟨V, 39, none⟩ = false := frozen_of_row _ V 39 _ _ V11.out
  go_wp2_with fail
  obtain ⟨w12, hw12, V12, B12, C12, R12⟩ := storedV (w0 := w) (x := .int .u32 ((num big ((s.drop 60).take 4) : Nat) : Int)) q 39 V11 B11 C11 R11 (.inr rfl) (by omega) hVM hVD
  simp only [List.setIfInBounds_toArray, List.set_cons_succ, List.set_cons_zero] at V12
  rw [← hw12]
  clear hw12 V11 B11 C11 R11 d9 fr9 HB9
  -- field 10
  have b10 : RB w12 (some ⟨g, 64, none⟩) (s.drop 64) := by
    have := B12.out.drop (c := 68) (by rw [hs.out]; omega) 64
    rwa [slA_some g 0 68 64 (by omega), Nat.zero_add] at this
  have HB10 := Lib.hid b10
  clear b10
  go_wp2_with fail
  refine (u32_RB big g 64 4 4 (s.drop 64) _ HB10.out (by rw [List.length_drop, hs.out]; omega) (by omega) (by omega)).mono ?_
  rintro e w' ⟨rfl, q, rfl⟩
  have d10 : w12.cell? ⟨V, 40, none⟩ = some (.int .u32 0) := cell_of_row _ V 40 _ _ _ V12.out
  have fr10 : w12.frozen? ⟨V, 40, none⟩ = false := frozen_of_row _ V 40 _ _ V12.out
  go_wp2
  obtain ⟨w13, hw13, V13, B13, C13, R13⟩ := storedV (w0 := w) (x := .int .u32 ((num big ((s.drop 64).take 4) : Nat) : Int)) q 40 V12 B12 C12 R12 (.inr rfl) (by omega) hVM hVD
  simp only [List.setIfInBounds_toArray, List.set_cons_succ, List.set_cons_zero] at V13
  rw [← hw13]
  clear hw13 V12 B12 C12 R12 d10 fr10 HB10
  go_ret
  exact ⟨rfl, R13, by rw [hrow.out]; exact V13, C13⟩

set_option maxRecDepth 100000 in
set_option maxHeartbeats 1000000 in
theorem readSection32_short (V M : Nat) (rd : Value) (D : Nat → Prop) (l : List UInt8) (pos : Nat) (big : Bool) (w : World) (TE TU : TypeId) (vE vU : Value) (hErr : Hid (ErrsAt w TE TU vE vU))
    (hR : Hid (Rdr w rd M D l pos)) (hpos : Hid (l.length < pos + 68)) :
    Calls Tryd.prog 57 #[.pointer (some ⟨V, 0, none⟩), rd, .int .u8 (ordn big)] w fun e w' => (∃ T v, e = .returned (.iface T v)) ∧ Chg (fun k => k = M) w w' := by
  obtain ⟨cur, hF, hmk⟩ := makeBytes 68 (by omega)
  have hmk : ∀ w, (Instr.makeSlice 22 (.int .i64 68) (.int .i64 68)).run Tryd.prog w = .ok (.slice (some ⟨w.heap.size, 0, none⟩) 68 68) (w.alloc (.cells cur.toArray 5)) := hmk
  have hRlt : M < w.heap.size := hR.out.lt
  have hM3 : 3 ≤ M := hR.out.m3
  have g1 := Lib.hid (heap_alloc_new w (.cells cur.toArray 5))
  have c0 : Chg (fun k => k = M) w (w.alloc (.cells cur.toArray 5)) := (Chg.refl _ w).alloc _
  have R1 := Lib.hid (hR.out.later ((Below.refl _ w).alloc (Nat.le_refl _) (.cells cur.toArray 5)))
  have E1 := Lib.hid (hErr.out.chg c0 (fun e => by omega) (fun e => by omega))
  have hgD : Hid (¬ D w.heap.size) := Lib.hid (fun e => absurd (hR.out.d _ e).1 (Nat.lt_irrefl _))
  go_enter Tryd.func57, Tryd.ntmps57
  go_wp2_with fail
  refine (rdr_short rd M w.heap.size D l pos 68 5 cur _ TE TU vE vU E1 R1 hpos (by omega) (by omega) g1 hF hgD (by omega) (by omega)).mono ?_
  rintro e w2 ⟨⟨x, T, v, rfl⟩, hc2⟩
  have C2 : Chg (fun k => k = M) w w2 := c0.trans (hc2.mono fun k _ e => by rcases e with e | e <;> omega)
  clear hc2 g1 c0 R1 hmk
  go_wp2
  go_ret
  exact ⟨⟨_, _, rfl⟩, C2⟩


set_option maxRecDepth 100000 in
set_option maxHeartbeats 1000000 in
theorem zzSection32_all (A : Option Addr) (l : List UInt8) (n c : Nat) (big : Bool) (w : World)
    (hN : Hid (n = l.length)) (hb : n ≤ 2147483647) (hZ : 68 ≤ n) (hnc : n ≤ c) (hA : Hid (RB w A l)) (hAl : ∀ a, A = some a → a.block < w.heap.size) (h3 : 3 ≤ w.heap.size) :
    Calls Tryd.prog 44 #[.int .u8 (ordn big), .slice A n c] w fun e w' => e = .returned (.tuple #[.agg (fSection32 big (l.take 68)).toArray, .nilIface]) ∧ Below w.heap.size w w' := by
  have hV := Lib.hid (heap_alloc2_old w (.cells #[.int .u8 0, .int .u8 0, .int .u8 0, .int .u8 0, .int .u8 0, .int .u8 0, .int .u8 0, .int .u8 0, .int .u8 0, .int .u8 0, .int .u8 0, .int .u8 0, .int .u8 0, .int .u8 0, .int .u8 0, .int .u8 0, .int .u8 0, .int .u8 0, .int .u8 0, .int .u8 0, .int .u8 0, .int .u8 0, .int .u8 0, .int .u8 0, .int .u8 0, .int .u8 0, .int .u8 0, .int .u8 0, .int .u8 0, .int .u8 0, .int .u8 0, .int .u8 0, .int .u32 0, .int .u32 0, .int .u32 0, .int .u32 0, .int .u32 0, .int .u32 0, .int .u32 0, .int .u32 0, .int .u32 0] 98) (.cells #[.slice A n c, .int .i64 0, .int .i64 (-1)] 112))
  have hR := Lib.hid (Rdr.made (w := w.alloc (.cells #[.int .u8 0, .int .u8 0, .int .u8 0, .int .u8 0, .int .u8 0, .int .u8 0, .int .u8 0, .int .u8 0, .int .u8 0, .int .u8 0, .int .u8 0, .int .u8 0, .int .u8 0, .int .u8 0, .int .u8 0, .int .u8 0, .int .u8 0, .int .u8 0, .int .u8 0, .int .u8 0, .int .u8 0, .int .u8 0, .int .u8 0, .int .u8 0, .int .u8 0, .int .u8 0, .int .u8 0, .int .u8 0, .int .u8 0, .int .u8 0, .int .u8 0, .int .u8 0, .int .u32 0, .int .u32 0, .int .u32 0, .int .u32 0, .int .u32 0, .int .u32 0, .int .u32 0, .int .u32 0, .int .u32 0] 98)) hN.out hb hnc (hA.out.later ((Below.refl _ w).alloc (Nat.le_refl _) (.cells #[.int .u8 0, .int .u8 0, .int .u8 0, .int .u8 0, .int .u8 0, .int .u8 0, .int .u8 0, .int .u8 0, .int .u8 0, .int .u8 0, .int .u8 0, .int .u8 0, .int .u8 0, .int .u8 0, .int .u8 0, .int .u8 0, .int .u8 0, .int .u8 0, .int .u8 0, .int .u8 0, .int .u8 0, .int .u8 0, .int .u8 0, .int .u8 0, .int .u8 0, .int .u8 0, .int .u8 0, .int .u8 0, .int .u8 0, .int .u8 0, .int .u8 0, .int .u8 0, .int .u32 0, .int .u32 0, .int .u32 0, .int .u32 0, .int .u32 0, .int .u32 0, .int .u32 0, .int .u32 0, .int .u32 0] 98))) (fun a ha => by have := hAl a ha; simp; omega) (by simp; omega))
  simp only [World.size_alloc] at hR
  have hVD : Hid (¬ ∃ a, A = some a ∧ a.block = w.heap.size) := Lib.hid (fun ⟨a, ha, e⟩ => by have := hAl a ha; omega)
  have hb0 : Below w.heap.size w ((w.alloc (.cells #[.int .u8 0, .int .u8 0, .int .u8 0, .int .u8 0, .int .u8 0, .int .u8 0, .int .u8 0, .int .u8 0, .int .u8 0, .int .u8 0, .int .u8 0, .int .u8 0, .int .u8 0, .int .u8 0, .int .u8 0, .int .u8 0, .int .u8 0, .int .u8 0, .int .u8 0, .int .u8 0, .int .u8 0, .int .u8 0, .int .u8 0, .int .u8 0, .int .u8 0, .int .u8 0, .int .u8 0, .int .u8 0, .int .u8 0, .int .u8 0, .int .u8 0, .int .u8 0, .int .u32 0, .int .u32 0, .int .u32 0, .int .u32 0, .int .u32 0, .int .u32 0, .int .u32 0, .int .u32 0, .int .u32 0] 98)).alloc (.cells #[.slice A n c, .int .i64 0, .int .i64 (-1)] 112)) := ((Below.refl _ _).alloc (Nat.le_refl _) _).alloc (by simp) _
  have hsz : ((w.alloc (.cells #[.int .u8 0, .int .u8 0, .int .u8 0, .int .u8 0, .int .u8 0, .int .u8 0, .int .u8 0, .int .u8 0, .int .u8 0, .int .u8 0, .int .u8 0, .int .u8 0, .int .u8 0, .int .u8 0, .int .u8 0, .int .u8 0, .int .u8 0, .int .u8 0, .int .u8 0, .int .u8 0, .int .u8 0, .int .u8 0, .int .u8 0, .int .u8 0, .int .u8 0, .int .u8 0, .int .u8 0, .int .u8 0, .int .u8 0, .int .u8 0, .int .u8 0, .int .u8 0, .int .u32 0, .int .u32 0, .int .u32 0, .int .u32 0, .int .u32 0, .int .u32 0, .int .u32 0, .int .u32 0, .int .u32 0] 98)).alloc (.cells #[.slice A n c, .int .i64 0, .int .i64 (-1)] 112)).heap.size = w.heap.size + 2 := by simp
  have HS := Lib.hid hsz
  clear hsz
  have hsize := sizeSection32 big (l.take 68) (by have := hN.out; simp; omega)
  replace hsize := Lib.hid hsize
  have hinfo : (Tryd.prog.info? 98).map (·.size) = some 41 := by kernel_rfl
  go_enter Tryd.func44, Tryd.ntmps44
  go_wp2_with fail
  refine (newReader _ A n c rfl _).mono ?_
  rintro e w' ⟨rfl, rfl⟩
  go_wp2_with fail
  refine (readSection32_all w.heap.size (w.heap.size + 1) _ _ l 0 big 98 _ hR (Lib.hid (by have := hN.out; omega)) (by omega) hVD hV).mono ?_
  rintro e w3 ⟨rfl, R3, V3, C3⟩
  rw [List.drop_zero] at V3
  have hb3 : Below w.heap.size w w3 := hb0.trans (C3.below (by rw [HS.out]; omega) (fun k hk e => by rcases e with e | e <;> omega))
  clear R3 C3 hb0
  go_wp2_with (first | (refine wpList_load_row rfl 98 _ rfl w.heap.size rfl 98 (fSection32 big (l.take 68)).toArray (0, 0) _ V3.out Tryd.underlying98 rfl (by rw [hsize.out]; exact hinfo) ?_) | (refine wpList_store_self rfl 98 _ _ rfl w.heap.size 98 (fSection32 big (l.take 68)).toArray rfl rfl V3.out (by rw [hsize.out]; exact hinfo) (oneSection32 big _) ?_))
  exact bodyPost_ret (results_cell_tmp rfl _ _ w.heap.size 98 (fSection32 big (l.take 68)).toArray (0, 0) _ rfl V3.out Tryd.underlying98 rfl (by rw [hsize.out]; exact hinfo)) rfl ⟨rfl, hb3⟩

set_option maxRecDepth 100000 in
set_option maxHeartbeats 1000000 in
theorem zzSection32_short (A : Option Addr) (l : List UInt8) (n c : Nat) (big : Bool) (w : World) (TE TU : TypeId) (vE vU : Value) (hErr : Hid (ErrsAt w TE TU vE vU)) (h3 : 3 ≤ w.heap.size)
    (hN : Hid (n = l.length)) (hb : n ≤ 2147483647) (hZ : n < 68) (hnc : n ≤ c) (hA : Hid (RB w A l)) (hAl : ∀ a, A = some a → a.block < w.heap.size) :
    Calls Tryd.prog 44 #[.int .u8 (ordn big), .slice A n c] w fun e w' => (∃ T v, e = .returned (.tuple #[.agg #[.int .u8 0, .int .u8 0, .int .u8 0, .int .u8 0, .int .u8 0, .int .u8 0, .int .u8 0, .int .u8 0, .int .u8 0, .int .u8 0, .int .u8 0, .int .u8 0, .int .u8 0, .int .u8 0, .int .u8 0, .int .u8 0, .int .u8 0, .int .u8 0, .int .u8 0, .int .u8 0, .int .u8 0, .int .u8 0, .int .u8 0, .int .u8 0, .int .u8 0, .int .u8 0, .int .u8 0, .int .u8 0, .int .u8 0, .int .u8 0, .int .u8 0, .int .u8 0, .int .u32 0, .int .u32 0, .int .u32 0, .int .u32 0, .int .u32 0, .int .u32 0, .int .u32 0, .int .u32 0, .int .u32 0], .iface T v])) ∧ Below w.heap.size w w' := by
  have hV := Lib.hid (heap_alloc2_old w (.cells #[.int .u8 0, .int .u8 0, .int .u8 0, .int .u8 0, .int .u8 0, .int .u8 0, .int .u8 0, .int .u8 0, .int .u8 0, .int .u8 0, .int .u8 0, .int .u8 0, .int .u8 0, .int .u8 0, .int .u8 0, .int .u8 0, .int .u8 0, .int .u8 0, .int .u8 0, .int .u8 0, .int .u8 0, .int .u8 0, .int .u8 0, .int .u8 0, .int .u8 0, .int .u8 0, .int .u8 0, .int .u8 0, .int .u8 0, .int .u8 0, .int .u8 0, .int .u8 0, .int .u32 0, .int .u32 0, .int .u32 0, .int .u32 0, .int .u32 0, .int .u32 0, .int .u32 0, .int .u32 0, .int .u32 0] 98) (.cells #[.slice A n c, .int .i64 0, .int .i64 (-1)] 112))
  have hR := Lib.hid (Rdr.made (w := w.alloc (.cells #[.int .u8 0, .int .u8 0, .int .u8 0, .int .u8 0, .int .u8 0, .int .u8 0, .int .u8 0, .int .u8 0, .int .u8 0, .int .u8 0, .int .u8 0, .int .u8 0, .int .u8 0, .int .u8 0, .int .u8 0, .int .u8 0, .int .u8 0, .int .u8 0, .int .u8 0, .int .u8 0, .int .u8 0, .int .u8 0, .int .u8 0, .int .u8 0, .int .u8 0, .int .u8 0, .int .u8 0, .int .u8 0, .int .u8 0, .int .u8 0, .int .u8 0, .int .u8 0, .int .u32 0, .int .u32 0, .int .u32 0, .int .u32 0, .int .u32 0, .int .u32 0, .int .u32 0, .int .u32 0, .int .u32 0] 98)) hN.out hb hnc (hA.out.later ((Below.refl _ w).alloc (Nat.le_refl _) (.cells #[.int .u8 0, .int .u8 0, .int .u8 0, .int .u8 0, .int .u8 0, .int .u8 0, .int .u8 0, .int .u8 0, .int .u8 0, .int .u8 0, .int .u8 0, .int .u8 0, .int .u8 0, .int .u8 0, .int .u8 0, .int .u8 0, .int .u8 0, .int .u8 0, .int .u8 0, .int .u8 0, .int .u8 0, .int .u8 0, .int .u8 0, .int .u8 0, .int .u8 0, .int .u8 0, .int .u8 0, .int .u8 0, .int .u8 0, .int .u8 0, .int .u8 0, .int .u8 0, .int .u32 0, .int .u32 0, .int .u32 0, .int .u32 0, .int .u32 0, .int .u32 0, .int .u32 0, .int .u32 0, .int .u32 0] 98))) (fun a ha => by have := hAl a ha; simp; omega) (by simp; omega))
  simp only [World.size_alloc] at hR
  have hVD : Hid (¬ ∃ a, A = some a ∧ a.block = w.heap.size) := Lib.hid (fun ⟨a, ha, e⟩ => by have := hAl a ha; omega)
  have hb0 : Below w.heap.size w ((w.alloc (.cells #[.int .u8 0, .int .u8 0, .int .u8 0, .int .u8 0, .int .u8 0, .int .u8 0, .int .u8 0, .int .u8 0, .int .u8 0, .int .u8 0, .int .u8 0, .int .u8 0, .int .u8 0, .int .u8 0, .int .u8 0, .int .u8 0, .int .u8 0, .int .u8 0, .int .u8 0, .int .u8 0, .int .u8 0, .int .u8 0, .int .u8 0, .int .u8 0, .int .u8 0, .int .u8 0, .int .u8 0, .int .u8 0, .int .u8 0, .int .u8 0, .int .u8 0, .int .u8 0, .int .u32 0, .int .u32 0, .int .u32 0, .int .u32 0, .int .u32 0, .int .u32 0, .int .u32 0, .int .u32 0, .int .u32 0] 98)).alloc (.cells #[.slice A n c, .int .i64 0, .int .i64 (-1)] 112)) := ((Below.refl _ _).alloc (Nat.le_refl _) _).alloc (by simp) _
  have hsz : ((w.alloc (.cells #[.int .u8 0, .int .u8 0, .int .u8 0, .int .u8 0, .int .u8 0, .int .u8 0, .int .u8 0, .int .u8 0, .int .u8 0, .int .u8 0, .int .u8 0, .int .u8 0, .int .u8 0, .int .u8 0, .int .u8 0, .int .u8 0, .int .u8 0, .int .u8 0, .int .u8 0, .int .u8 0, .int .u8 0, .int .u8 0, .int .u8 0, .int .u8 0, .int .u8 0, .int .u8 0, .int .u8 0, .int .u8 0, .int .u8 0, .int .u8 0, .int .u8 0, .int .u8 0, .int .u32 0, .int .u32 0, .int .u32 0, .int .u32 0, .int .u32 0, .int .u32 0, .int .u32 0, .int .u32 0, .int .u32 0] 98)).alloc (.cells #[.slice A n c, .int .i64 0, .int .i64 (-1)] 112)).heap.size = w.heap.size + 2 := by simp
  have HS := Lib.hid hsz
  clear hsz
  have hE2 := Lib.hid (hErr.out.chg (Chg.of_below (S := fun k => w.heap.size ≤ k) hb0 (fun k _ h => h)) (by omega) (by omega))
  go_enter Tryd.func44, Tryd.ntmps44
  go_wp2_with fail
  refine (newReader _ A n c rfl _).mono ?_
  rintro e w' ⟨rfl, rfl⟩
  go_wp2_with fail
  refine (readSection32_short w.heap.size (w.heap.size + 1) _ _ l 0 big _ TE TU vE vU hE2 hR (Lib.hid (by have := hN.out; omega))).mono ?_
  rintro e w3 ⟨⟨TX, vX, rfl⟩, C3⟩
  have V3 : Hid (w3.heap[w.heap.size]? = some (.cells #[.int .u8 0, .int .u8 0, .int .u8 0, .int .u8 0, .int .u8 0, .int .u8 0, .int .u8 0, .int .u8 0, .int .u8 0, .int .u8 0, .int .u8 0, .int .u8 0, .int .u8 0, .int .u8 0, .int .u8 0, .int .u8 0, .int .u8 0, .int .u8 0, .int .u8 0, .int .u8 0, .int .u8 0, .int .u8 0, .int .u8 0, .int .u8 0, .int .u8 0, .int .u8 0, .int .u8 0, .int .u8 0, .int .u8 0, .int .u8 0, .int .u8 0, .int .u8 0, .int .u32 0, .int .u32 0, .int .u32 0, .int .u32 0, .int .u32 0, .int .u32 0, .int .u32 0, .int .u32 0, .int .u32 0] 98 (0, 0))) := Lib.hid (C3.row hV.out (by omega))
  have hb3 : Below w.heap.size w w3 := hb0.trans (C3.below (by rw [HS.out]; omega) (fun k hk e => by omega))
  clear C3 hb0
  go_wp2_with (first | (refine wpList_load_row rfl 98 _ rfl w.heap.size rfl 98 #[.int .u8 0, .int .u8 0, .int .u8 0, .int .u8 0, .int .u8 0, .int .u8 0, .int .u8 0, .int .u8 0, .int .u8 0, .int .u8 0, .int .u8 0, .int .u8 0, .int .u8 0, .int .u8 0, .int .u8 0, .int .u8 0, .int .u8 0, .int .u8 0, .int .u8 0, .int .u8 0, .int .u8 0, .int .u8 0, .int .u8 0, .int .u8 0, .int .u8 0, .int .u8 0, .int .u8 0, .int .u8 0, .int .u8 0, .int .u8 0, .int .u8 0, .int .u8 0, .int .u32 0, .int .u32 0, .int .u32 0, .int .u32 0, .int .u32 0, .int .u32 0, .int .u32 0, .int .u32 0, .int .u32 0] (0, 0) _ V3.out Tryd.underlying98 rfl (by kernel_rfl) ?_) | (refine wpList_store_self rfl 98 _ _ rfl w.heap.size 98 #[.int .u8 0, .int .u8 0, .int .u8 0, .int .u8 0, .int .u8 0, .int .u8 0, .int .u8 0, .int .u8 0, .int .u8 0, .int .u8 0, .int .u8 0, .int .u8 0, .int .u8 0, .int .u8 0, .int .u8 0, .int .u8 0, .int .u8 0, .int .u8 0, .int .u8 0, .int .u8 0, .int .u8 0, .int .u8 0, .int .u8 0, .int .u8 0, .int .u8 0, .int .u8 0, .int .u8 0, .int .u8 0, .int .u8 0, .int .u8 0, .int .u8 0, .int .u8 0, .int .u32 0, .int .u32 0, .int .u32 0, .int .u32 0, .int .u32 0, .int .u32 0, .int .u32 0, .int .u32 0, .int .u32 0] rfl rfl V3.out (by kernel_rfl) (List.all_eq_true.1 rfl) ?_))
  exact bodyPost_ret (results_cell_tmp rfl _ _ w.heap.size 98 #[.int .u8 0, .int .u8 0, .int .u8 0, .int .u8 0, .int .u8 0, .int .u8 0, .int .u8 0, .int .u8 0, .int .u8 0, .int .u8 0, .int .u8 0, .int .u8 0, .int .u8 0, .int .u8 0, .int .u8 0, .int .u8 0, .int .u8 0, .int .u8 0, .int .u8 0, .int .u8 0, .int .u8 0, .int .u8 0, .int .u8 0, .int .u8 0, .int .u8 0, .int .u8 0, .int .u8 0, .int .u8 0, .int .u8 0, .int .u8 0, .int .u8 0, .int .u8 0, .int .u32 0, .int .u32 0, .int .u32 0, .int .u32 0, .int .u32 0, .int .u32 0, .int .u32 0, .int .u32 0, .int .u32 0] (0, 0) _ rfl V3.out Tryd.underlying98 rfl (by kernel_rfl)) rfl ⟨⟨_, _, rfl⟩, hb3⟩

end Go.Proofs.YtcdknbclhdllkaaDoor
