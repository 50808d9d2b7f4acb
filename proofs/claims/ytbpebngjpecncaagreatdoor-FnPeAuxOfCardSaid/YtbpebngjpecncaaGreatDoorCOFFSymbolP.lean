/-
  The contracts of the functions that read the struct COFFSymbol (read).
-/
import Derived.Test.YtbpebngjpecncaaGreatDoorOrd
import Derived.Test.YtbpebngjpecncaaGreatDoorSecRd
import Derived.Test.YtbpebngjpecncaaGreatDoorRow
import Derived.Test.YtbpebngjpecncaaGreatDoorName
import Derived.Test.YtbpebngjpecncaaGreatDoorNum1
namespace Go.Proofs.YtbpebngjpecncaaGreatDoor
set_option linter.unusedVariables false
set_option linter.unusedSimpArgs false
set_option maxRecDepth 100000
open Go Go.RowKit
attribute [local go_sem ↓] Go.wp_at_zero Go.wp_at_succ

/-- The fields of COFFSymbol out of its bytes. -/
def fCOFFSymbol (big : Bool) (s : List UInt8) : List Value := (s.take 8).map bv ++ ([.int .u32 ((num big ((s.drop 8).take 4) : Nat) : Int), .int .i16 (IntKind.i16.wrap ((num big ((s.drop 12).take 2) : Nat) : Int)), .int .u16 ((num big ((s.drop 14).take 2) : Nat) : Int), .int .u8 ((num big ((s.drop 16).take 1) : Nat) : Int), .int .u8 ((num big ((s.drop 17).take 1) : Nat) : Int)])
theorem fCOFFSymbol_row (big : Bool) (s : List UInt8) (h : s.length = 18) : ∃ y0_0 y0_1 y0_2 y0_3 y0_4 y0_5 y0_6 y0_7, (s.take 8) = [y0_0, y0_1, y0_2, y0_3, y0_4, y0_5, y0_6, y0_7] ∧ fCOFFSymbol big s = [bv y0_0, bv y0_1, bv y0_2, bv y0_3, bv y0_4, bv y0_5, bv y0_6, bv y0_7, .int .u32 ((num big ((s.drop 8).take 4) : Nat) : Int), .int .i16 (IntKind.i16.wrap ((num big ((s.drop 12).take 2) : Nat) : Int)), .int .u16 ((num big ((s.drop 14).take 2) : Nat) : Int), .int .u8 ((num big ((s.drop 16).take 1) : Nat) : Int), .int .u8 ((num big ((s.drop 17).take 1) : Nat) : Int)] := by
  obtain ⟨y0_0, y0_1, y0_2, y0_3, y0_4, y0_5, y0_6, y0_7, hy0⟩ := name8 (show (s.take 8).length = 8 by simp; omega)
  exact ⟨y0_0, y0_1, y0_2, y0_3, y0_4, y0_5, y0_6, y0_7, hy0, by unfold fCOFFSymbol; simp only [hy0]; rfl⟩
theorem oneCOFFSymbol (big : Bool) (s : List UInt8) : ∀ v ∈ (fCOFFSymbol big s).toArray.toList, v.oneCell' = true := by
  refine List.all_eq_true.1 (show (fCOFFSymbol big s).all (·.oneCell') = true from ?_)
  simp only [fCOFFSymbol, List.all_append, all_bv]
  rfl
theorem sizeCOFFSymbol (big : Bool) (s : List UInt8) (h : s.length = 18) : (fCOFFSymbol big s).toArray.size = 13 := by
  first | (simp [fCOFFSymbol]; done) | (simp [fCOFFSymbol]; omega)

set_option maxRecDepth 100000 in
set_option maxHeartbeats 2000000 in
theorem readCOFFSymbol_all (V M : Nat) (rd : Value) (D : Nat → Prop) (l : List UInt8) (pos : Nat) (big : Bool) (TV : TypeId) (w : World)
    (hR : Hid (Rdr w rd M D l pos)) (hpos : Hid (pos + 18 ≤ l.length)) (hVM : V ≠ M) (hVD : Hid (¬ D V))
    (hV : Hid (w.heap[V]? = some (.cells #[.int .u8 0, .int .u8 0, .int .u8 0, .int .u8 0, .int .u8 0, .int .u8 0, .int .u8 0, .int .u8 0, .int .u32 0, .int .i16 0, .int .u16 0, .int .u8 0, .int .u8 0] TV (0, 0)))) :
    Calls Tryz.prog 48 #[.pointer (some ⟨V, 0, none⟩), rd, .int .u8 (ordn big)] w fun e w' => e = .returned .nilIface ∧
      Hid (Rdr w' rd M D l (pos + 18)) ∧ Hid (w'.heap[V]? = some (.cells (fCOFFSymbol big ((l.drop pos).take 18)).toArray TV (0, 0))) ∧ Chg (fun k => k = M ∨ k = V) w w' := by
  obtain ⟨cur, hF, hmk⟩ := makeBytes 18 (by omega)
  have hmk : ∀ w, (Instr.makeSlice 34 (.int .i64 18) (.int .i64 18)).run Tryz.prog w = .ok (.slice (some ⟨w.heap.size, 0, none⟩) 18 18) (w.alloc (.cells cur.toArray 5)) := hmk
  have hRlt : M < w.heap.size := hR.out.lt
  have hVlt : V < w.heap.size := (Array.getElem?_eq_some_iff.1 hV.out).1
  have hs := Lib.hid (show ((l.drop pos).take 18).length = 18 by have := hpos.out; simp; omega)
  have g1 := Lib.hid (heap_alloc_new w (.cells cur.toArray 5))
  have c0 : Chg (fun k => k = M ∨ k = V) w (w.alloc (.cells cur.toArray 5)) := (Chg.refl _ w).alloc _
  have V1 := Lib.hid ((Below.heap_alloc w (.cells cur.toArray 5) V hVlt).trans hV.out)
  have R1 := Lib.hid (hR.out.later ((Below.refl _ w).alloc (Nat.le_refl _) (.cells cur.toArray 5)))
  have hgD : Hid (¬ D w.heap.size) := Lib.hid (fun e => absurd (hR.out.d _ e).1 (Nat.lt_irrefl _))
  obtain ⟨s, hS⟩ : ∃ s, (l.drop pos).take 18 = s := ⟨_, rfl⟩
  rw [hS] at hs ⊢
  have HS := Lib.hid hS
  clear hS
  obtain ⟨y0_0, y0_1, y0_2, y0_3, y0_4, y0_5, y0_6, y0_7, hy0, hrow⟩ := fCOFFSymbol_row big s hs.out
  replace hrow := Lib.hid hrow
  replace hy0 := Lib.hid hy0
  go_enter Tryz.func48, Tryz.ntmps48
  go_wp2_with fail
  refine (rdr_full rd M w.heap.size D l pos 18 5 cur _ R1 hpos (by omega) g1 hF hgD (by omega)).mono ?_
  rintro e w2 ⟨rfl, R2, g2, hc2, hs2⟩
  rw [HS.out] at g2
  have V2 : Hid (w2.heap[V]? = some (.cells #[.int .u8 0, .int .u8 0, .int .u8 0, .int .u8 0, .int .u8 0, .int .u8 0, .int .u8 0, .int .u8 0, .int .u32 0, .int .i16 0, .int .u16 0, .int .u8 0, .int .u8 0] TV (0, 0))) := Lib.hid (hc2.row V1.out (by omega))
  have B2 : Hid (RB w2 (some ⟨w.heap.size, 0, none⟩) s) := Lib.hid (RB.of_row g2.out)
  have C2 : Chg (fun k => k = M ∨ k = V) w w2 := c0.trans (hc2.mono fun k _ e => by rcases e with e | e <;> omega)
  clear hs2 hc2 g2 g1 c0 V1 R1 hmk hgD
  generalize w.heap.size = g at *
  -- field 0: a name
  have b0 : RB w2 (some ⟨g, 0, none⟩) [y0_0, y0_1, y0_2, y0_3, y0_4, y0_5, y0_6, y0_7] := by
    have := (B2.out.drop (c := 18) (by rw [hs.out]; omega) 0).take 8
    rwa [slA_some g 0 18 0 (by omega), Nat.zero_add, List.drop_zero, hy0.out] at this
  have HB0 := Lib.hid b0
  clear b0
  go_wp2
  go_region_held3 (fun _ => True) (trivial)
    ((refine step_copy_bytes (by rfl) _ _ _ _ (by rfl) 5 Tryz.underlying34 Tryz.sizeByte V 0 8 8 (some ⟨g, 0, none⟩) 8 18 (by rfl) (by rfl) [.int .u8 0, .int .u8 0, .int .u8 0, .int .u8 0, .int .u8 0, .int .u8 0, .int .u8 0, .int .u8 0, .int .u32 0, .int .i16 0, .int .u16 0, .int .u8 0, .int .u8 0] TV (by exact V2) [y0_0, y0_1, y0_2, y0_3, y0_4, y0_5, y0_6, y0_7] rfl (by exact HB0.out) (by decide) (by simp) ?_; intro w3 V3' hc0 hz0))
  replace V3' : Hid (w3.heap[V]? = some (.cells #[bv y0_0, bv y0_1, bv y0_2, bv y0_3, bv y0_4, bv y0_5, bv y0_6, bv y0_7, .int .u32 0, .int .i16 0, .int .u16 0, .int .u8 0, .int .u8 0] TV (0, 0))) := V3'
  have V3 := V3'
  replace hc0 : Chg (· = V) w2 w3 := ⟨hc0.os, hc0.tape, hc0.output, hc0.size, hc0.block⟩
  obtain ⟨B3, C3, R3⟩ := writtenV (w0 := w) hc0 B2 C2 R2 (.inr rfl) (by omega) hVM hVD
  clear V3' hc0 hz0 HB0 V2 B2 C2 R2
  -- field 1
  have b1 : RB w3 (some ⟨g, 8, none⟩) (s.drop 8) := by
    have := B3.out.drop (c := 18) (by rw [hs.out]; omega) 8
    rwa [slA_some g 0 18 8 (by omega), Nat.zero_add] at this
  have HB1 := Lib.hid b1
  clear b1
  go_wp2_with fail
  refine (u32_RB big g 8 10 10 (s.drop 8) _ HB1.out (by rw [List.length_drop, hs.out]; omega) (by omega) (by omega)).mono ?_
  rintro e w' ⟨rfl, q, rfl⟩
  have d1 : w3.cell? ⟨V, 8, none⟩ = some (.int .u32 0) := cell_of_row _ V 8 _ _ _ V3.out
  have fr1 : w3.frozen? ⟨V, 8, none⟩ = false := frozen_of_row _ V 8 _ _ V3.out
  go_wp2_with fail
  obtain ⟨w4, hw4, V4, B4, C4, R4⟩ := storedV (w0 := w) (x := .int .u32 ((num big ((s.drop 8).take 4) : Nat) : Int)) q 8 V3 B3 C3 R3 (.inr rfl) (by omega) hVM hVD
  simp only [List.setIfInBounds_toArray, List.set_cons_succ, List.set_cons_zero] at V4
  rw [← hw4]
  clear hw4 V3 B3 C3 R3 d1 fr1 HB1
  -- field 2
  have b2 : RB w4 (some ⟨g, 12, none⟩) (s.drop 12) := by
    have := B4.out.drop (c := 18) (by rw [hs.out]; omega) 12
    rwa [slA_some g 0 18 12 (by omega), Nat.zero_add] at this
  have HB2 := Lib.hid b2
  clear b2
  go_wp2_with fail
  refine (u16_RB big g 12 6 6 (s.drop 12) _ HB2.out (by rw [List.length_drop, hs.out]; omega) (by omega) (by omega)).mono ?_
  rintro e w' ⟨rfl, q, rfl⟩
  have d2 : w4.cell? ⟨V, 9, none⟩ = some (.int .i16 0) := cell_of_row _ V 9 _ _ _ V4.out
  have fr2 : w4.frozen? ⟨V, 9, none⟩ = false := frozen_of_row _ V 9 _ _ V4.out
  go_wp2_with fail
  obtain ⟨w5, hw5, V5, B5, C5, R5⟩ := storedV (w0 := w) (x := .int .i16 (IntKind.i16.wrap ((num big ((s.drop 12).take 2) : Nat) : Int))) q 9 V4 B4 C4 R4 (.inr rfl) (by omega) hVM hVD
  simp only [List.setIfInBounds_toArray, List.set_cons_succ, List.set_cons_zero] at V5
  rw [← hw5]
  clear hw5 V4 B4 C4 R4 d2 fr2 HB2
  -- field 3
  have b3 : RB w5 (some ⟨g, 14, none⟩) (s.drop 14) := by
    have := B5.out.drop (c := 18) (by rw [hs.out]; omega) 14
    rwa [slA_some g 0 18 14 (by omega), Nat.zero_add] at this
  have HB3 := Lib.hid b3
  clear b3
  go_wp2_with fail
  refine (u16_RB big g 14 4 4 (s.drop 14) _ HB3.out (by rw [List.length_drop, hs.out]; omega) (by omega) (by omega)).mono ?_
  rintro e w' ⟨rfl, q, rfl⟩
  have d3 : w5.cell? ⟨V, 10, none⟩ = some (.int .u16 0) := cell_of_row _ V 10 _ _ _ V5.out
  have fr3 : w5.frozen? ⟨V, 10, none⟩ = false := frozen_of_row _ V 10 _ _ V5.out
  have d4 : w5.cell? ⟨V, 11, none⟩ = some (.int .u8 0) := cell_of_row _ V 11 _ _ _ V5.out
  have fr4 : w5.frozen? ⟨V, 11, none⟩ = false := frozen_of_row _ V 11 _ _ V5.out
  have u4 : w5.cell? ⟨g, 16, none⟩ = some (.int .u8 ((num big ((s.drop 16).take 1) : Nat) : Int)) := num1 big B5.out 16 (by rw [hs.out]; omega)
  have d5 : w5.cell? ⟨V, 12, none⟩ = some (.int .u8 0) := cell_of_row _ V 12 _ _ _ V5.out
  have fr5 : w5.frozen? ⟨V, 12, none⟩ = false := frozen_of_row _ V 12 _ _ V5.out
  have u5 : w5.cell? ⟨g, 17, none⟩ = some (.int .u8 ((num big ((s.drop 17).take 1) : Nat) : Int)) := num1 big B5.out 17 (by rw [hs.out]; omega)
  have hgV : ¬ V = g := by omega
  have hVg : ¬ g = V := by omega
  go_wp2
  obtain ⟨w6, hw6, V6, B6, C6, R6⟩ := storedV (w0 := w) (x := .int .u16 ((num big ((s.drop 14).take 2) : Nat) : Int)) q 10 V5 B5 C5 R5 (.inr rfl) (by omega) hVM hVD
  simp only [List.setIfInBounds_toArray, List.set_cons_succ, List.set_cons_zero] at V6
  rw [← hw6]
  clear hw6 V5 B5 C5 R5 d3 fr3 HB3
  obtain ⟨w7, hw7, V7, B7, C7, R7⟩ := storedV0 (w0 := w) (x := .int .u8 ((num big ((s.drop 16).take 1) : Nat) : Int)) 11 V6 B6 C6 R6 (.inr rfl) (by omega) hVM hVD
  simp only [List.setIfInBounds_toArray, List.set_cons_succ, List.set_cons_zero] at V7
  rw [← hw7]
  clear hw7 V6 B6 C6 R6 d4 fr4 u4
  obtain ⟨w8, hw8, V8, B8, C8, R8⟩ := storedV0 (w0 := w) (x := .int .u8 ((num big ((s.drop 17).take 1) : Nat) : Int)) 12 V7 B7 C7 R7 (.inr rfl) (by omega) hVM hVD
  simp only [List.setIfInBounds_toArray, List.set_cons_succ, List.set_cons_zero] at V8
  rw [← hw8]
  clear hw8 V7 B7 C7 R7 d5 fr5 u5
  clear hgV hVg
  go_ret
  exact ⟨rfl, R8, by rw [hrow.out]; exact V8, C8⟩

end Go.Proofs.YtbpebngjpecncaaGreatDoor
