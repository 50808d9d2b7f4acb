/-
  The contracts of the functions that read the struct DysymtabCmd.
-/
import Derived.Test.YtcdknbclhdllkaaDoorOrd
import Derived.Test.YtcdknbclhdllkaaDoorIo
import Derived.Test.YtcdknbclhdllkaaDoorRow
namespace Go.Proofs.YtcdknbclhdllkaaDoor
set_option linter.unusedVariables false
set_option linter.unusedSimpArgs false
open Go Go.RowKit

/-- The fields of DysymtabCmd out of its bytes. -/
def fDysymtabCmd (big : Bool) (s : List UInt8) : List Value := [.int .u32 ((num big (s.take 4) : Nat) : Int), .int .u32 ((num big ((s.drop 4).take 4) : Nat) : Int), .int .u32 ((num big ((s.drop 8).take 4) : Nat) : Int), .int .u32 ((num big ((s.drop 12).take 4) : Nat) : Int), .int .u32 ((num big ((s.drop 16).take 4) : Nat) : Int), .int .u32 ((num big ((s.drop 20).take 4) : Nat) : Int), .int .u32 ((num big ((s.drop 24).take 4) : Nat) : Int), .int .u32 ((num big ((s.drop 28).take 4) : Nat) : Int), .int .u32 ((num big ((s.drop 32).take 4) : Nat) : Int), .int .u32 ((num big ((s.drop 36).take 4) : Nat) : Int), .int .u32 ((num big ((s.drop 40).take 4) : Nat) : Int), .int .u32 ((num big ((s.drop 44).take 4) : Nat) : Int), .int .u32 ((num big ((s.drop 48).take 4) : Nat) : Int), .int .u32 ((num big ((s.drop 52).take 4) : Nat) : Int), .int .u32 ((num big ((s.drop 56).take 4) : Nat) : Int), .int .u32 ((num big ((s.drop 60).take 4) : Nat) : Int), .int .u32 ((num big ((s.drop 64).take 4) : Nat) : Int), .int .u32 ((num big ((s.drop 68).take 4) : Nat) : Int), .int .u32 ((num big ((s.drop 72).take 4) : Nat) : Int), .int .u32 ((num big ((s.drop 76).take 4) : Nat) : Int)]

/-- A field is stored: what is known afterwards. -/
theorem storedDysymtabCmd {w0 w : World} {x : Value} {V R g : Nat} {cs rs : Array Value} {TV TR : TypeId} {s : List UInt8} {S : Nat → Prop} (q i : Nat) (hV : Hid (w.heap[V]? = some (.cells cs TV (0, 0)))) (hB : Hid (RB w (some ⟨g, 0, none⟩) s)) (hC : Chg S w0 w)
    (hR : Hid (w.heap[R]? = some (.cells rs TR (0, 0)))) (hS : S V) (hg : g ≠ V) (hVR : V ≠ R) :
    ∃ w', w' = (w.drewN q).setCell ⟨V, i, none⟩ x ∧ Hid (w'.heap[V]? = some (.cells (cs.setIfInBounds i x) TV (0, 0))) ∧ Hid (RB w' (some ⟨g, 0, none⟩) s) ∧ Chg S w0 w' ∧ Hid (w'.heap[R]? = some (.cells rs TR (0, 0))) := by
  refine ⟨_, rfl, Lib.hid (heap_setCell_same (w.drewN q) V i _ TV _ hV.out), Lib.hid ?_, (hC.drewN q).setCell _ _ (.inl hS), Lib.hid ((heap_setCell_other (w.drewN q) _ R _ (fun e => hVR e.symm)).trans hR.out)⟩
  have hc : Chg (· = V) w ((w.drewN q).setCell ⟨V, i, none⟩ x) := ((Chg.refl _ w).drewN q).setCell _ _ (.inl rfl)
  exact hB.out.chg hc fun a ha => by cases ha; exact hg

set_option maxRecDepth 100000 in
set_option maxHeartbeats 2000000 in
theorem readDysymtabCmd_all (V R : Nat) (A : Option Addr) (l : List UInt8) (n c pos : Nat) (pv : Value) (big : Bool) (TR TV : TypeId) (w : World)
    (hN : Hid (n = l.length)) (hb : n ≤ 2147483647) (hpos : pos + 80 ≤ n) (hnc : n ≤ c) (hVR : V ≠ R)
    (hR : Hid (w.heap[R]? = some (.cells #[.slice A n c, .int .i64 pos, pv] TR (0, 0)))) (hV : Hid (w.heap[V]? = some (.cells #[.int .u32 0, .int .u32 0, .int .u32 0, .int .u32 0, .int .u32 0, .int .u32 0, .int .u32 0, .int .u32 0, .int .u32 0, .int .u32 0, .int .u32 0, .int .u32 0, .int .u32 0, .int .u32 0, .int .u32 0, .int .u32 0, .int .u32 0, .int .u32 0, .int .u32 0, .int .u32 0] TV (0, 0)))) (hA : Hid (RB w A l)) (hAR : ∀ a, A = some a → a.block ≠ R ∧ a.block ≠ V ∧ a.block < w.heap.size) :
    Calls Tryd.prog 51 #[.pointer (some ⟨V, 0, none⟩), .iface 102 (.pointer (some ⟨R, 0, none⟩)), .int .u8 (ordn big)] w fun e w' => e = .returned .nilIface ∧
      Hid (w'.heap[R]? = some (.cells #[.slice A n c, .int .i64 (pos + 80 : Nat), .int .i64 (-1)] TR (0, 0))) ∧ Hid (w'.heap[V]? = some (.cells (fDysymtabCmd big ((l.drop pos).take 80)).toArray TV (0, 0))) ∧ Chg (fun k => k = R ∨ k = V) w w' := by
  obtain ⟨cur, hF, hmk⟩ := makeBytes 80 (by omega)
  have hmk : ∀ w, (Instr.makeSlice 22 (.int .i64 80) (.int .i64 80)).run Tryd.prog w = .ok (.slice (some ⟨w.heap.size, 0, none⟩) 80 80) (w.alloc (.cells cur.toArray 5)) := hmk
  have hRlt : R < w.heap.size := (Array.getElem?_eq_some_iff.1 hR.out).1
  have hVlt : V < w.heap.size := (Array.getElem?_eq_some_iff.1 hV.out).1
  have hs := Lib.hid (show ((l.drop pos).take 80).length = 80 by have := hN.out; simp; omega)
  have g1 := Lib.hid (heap_alloc_new w (.cells cur.toArray 5))
  have c0 : Chg (fun k => k = R ∨ k = V) w (w.alloc (.cells cur.toArray 5)) := (Chg.refl _ w).alloc _
  have R1 := Lib.hid ((Below.heap_alloc w (.cells cur.toArray 5) R hRlt).trans hR.out)
  have V1 := Lib.hid ((Below.heap_alloc w (.cells cur.toArray 5) V hVlt).trans hV.out)
  have A1 := Lib.hid (hA.out.later ((Below.refl _ w).alloc (Nat.le_refl _) (.cells cur.toArray 5)))
  obtain ⟨s, hS⟩ : ∃ s, (l.drop pos).take 80 = s := ⟨_, rfl⟩
  rw [hS] at hs ⊢
  have HS := Lib.hid hS
  clear hS
  go_enter Tryd.func51, Tryd.ntmps51
  go_wp2_with fail
  refine (readFull_all R w.heap.size A l n c pos 80 pv TR 5 cur _ hN hb hpos (by omega) (by omega) hnc (by omega) R1 g1 hF A1.out (fun a ha => ⟨(hAR a ha).1, by have := (hAR a ha).2.2; omega⟩)).mono ?_
  rintro e w2 ⟨rfl, R2, g2, hc2, hs2⟩
  rw [HS.out] at g2
  have V2 : Hid (w2.heap[V]? = some (.cells #[.int .u32 0, .int .u32 0, .int .u32 0, .int .u32 0, .int .u32 0, .int .u32 0, .int .u32 0, .int .u32 0, .int .u32 0, .int .u32 0, .int .u32 0, .int .u32 0, .int .u32 0, .int .u32 0, .int .u32 0, .int .u32 0, .int .u32 0, .int .u32 0, .int .u32 0, .int .u32 0] TV (0, 0))) := Lib.hid (hc2.row V1.out (by omega))
  have B2 : Hid (RB w2 (some ⟨w.heap.size, 0, none⟩) s) := Lib.hid (RB.of_row g2.out)
  have C2 : Chg (fun k => k = R ∨ k = V) w w2 := c0.trans (hc2.mono fun k _ e => by rcases e with e | e <;> omega)
  clear hs2 hc2 g2 g1 c0 V1 R1 A1 hmk
  generalize w.heap.size = g at *
  -- field 0
  have b0 : RB w2 (some ⟨g, 0, none⟩) s := by
    have := B2.out.drop (c := 80) (by rw [hs.out]; omega) 0
    rwa [slA_some g 0 80 0 (by omega), Nat.zero_add, List.drop_zero] at this
  have HB0 := Lib.hid b0
  clear b0
  go_wp2_with fail
  refine (u32_RB big g 0 80 80 s _ HB0.out (by rw [hs.out]; omega) (by omega) (by omega)).mono ?_
  rintro e w' ⟨rfl, q, rfl⟩
  have d0 : w2.cell? ⟨V, 0, none⟩ = some (.int .u32 0) := cell_of_row _ V 0 _ _ _ V2.out
  have fr0 : w2.frozen? ⟨V, 0, none⟩ = false := frozen_of_row _ V 0 _ _ V2.out
  go_wp2_with fail
  obtain ⟨w3, hw3, V3, B3, C3, R3⟩ := storedDysymtabCmd (w0 := w) (x := .int .u32 ((num big (s.take 4) : Nat) : Int)) q 0 V2 B2 C2 R2 (.inr rfl) (by omega) hVR
  simp only [List.setIfInBounds_toArray, List.set_cons_succ, List.set_cons_zero] at V3
  rw [← hw3]
  clear hw3 V2 B2 C2 R2 d0 fr0 HB0
  -- field 1
  have b1 : RB w3 (some ⟨g, 4, none⟩) (s.drop 4) := by
    have := B3.out.drop (c := 80) (by rw [hs.out]; omega) 4
    rwa [slA_some g 0 80 4 (by omega), Nat.zero_add] at this
  have HB1 := Lib.hid b1
  clear b1
  go_wp2_with fail
  refine (u32_RB big g 4 76 76 (s.drop 4) _ HB1.out (by rw [List.length_drop, hs.out]; omega) (by omega) (by omega)).mono ?_
  rintro e w' ⟨rfl, q, rfl⟩
  have d1 : w3.cell? ⟨V, 1, none⟩ = some (.int .u32 0) := cell_of_row _ V 1 _ _ _ V3.out
  have fr1 : w3.frozen? ⟨V, 1, none⟩ = false := frozen_of_row _ V 1 _ _ V3.out
  go_wp2_with fail
  obtain ⟨w4, hw4, V4, B4, C4, R4⟩ := storedDysymtabCmd (w0 := w) (x := .int .u32 ((num big ((s.drop 4).take 4) : Nat) : Int)) q 1 V3 B3 C3 R3 (.inr rfl) (by omega) hVR
  simp only [List.setIfInBounds_toArray, List.set_cons_succ, List.set_cons_zero] at V4
  rw [← hw4]
  clear hw4 V3 B3 C3 R3 d1 fr1 HB1
  -- field 2
  have b2 : RB w4 (some ⟨g, 8, none⟩) (s.drop 8) := by
    have := B4.out.drop (c := 80) (by rw [hs.out]; omega) 8
    rwa [slA_some g 0 80 8 (by omega), Nat.zero_add] at this
  have HB2 := Lib.hid b2
  clear b2
  go_wp2_with fail
  refine (u32_RB big g 8 72 72 (s.drop 8) _ HB2.out (by rw [List.length_drop, hs.out]; omega) (by omega) (by omega)).mono ?_
  rintro e w' ⟨rfl, q, rfl⟩
  have d2 : w4.cell? ⟨V, 2, none⟩ = some (.int .u32 0) := cell_of_row _ V 2 _ _ _ V4.out
  have fr2 : w4.frozen? ⟨V, 2, none⟩ = false := frozen_of_row _ V 2 _ _ V4.out
  go_wp2_with fail
  obtain ⟨w5, hw5, V5, B5, C5, R5⟩ := storedDysymtabCmd (w0 := w) (x := .int .u32 ((num big ((s.drop 8).take 4) : Nat) : Int)) q 2 V4 B4 C4 R4 (.inr rfl) (by omega) hVR
  simp only [List.setIfInBounds_toArray, List.set_cons_succ, List.set_cons_zero] at V5
  rw [← hw5]
  clear hw5 V4 B4 C4 R4 d2 fr2 HB2
  -- field 3
  have b3 : RB w5 (some ⟨g, 12, none⟩) (s.drop 12) := by
    have := B5.out.drop (c := 80) (by rw [hs.out]; omega) 12
    rwa [slA_some g 0 80 12 (by omega), Nat.zero_add] at this
  have HB3 := Lib.hid b3
  clear b3
  go_wp2_with fail
  refine (u32_RB big g 12 68 68 (s.drop 12) _ HB3.out (by rw [List.length_drop, hs.out]; omega) (by omega) (by omega)).mono ?_
  rintro e w' ⟨rfl, q, rfl⟩
  have d3 : w5.cell? ⟨V, 3, none⟩ = some (.int .u32 0) := cell_of_row _ V 3 _ _ _ V5.out
  have fr3 : w5.frozen? ⟨V, 3, none⟩ = false := frozen_of_row _ V 3 _ _ V5.out
  go_wp2_with fail
  obtain ⟨w6, hw6, V6, B6, C6, R6⟩ := storedDysymtabCmd (w0 := w) (x := .int .u32 ((num big ((s.drop 12).take 4) : Nat) : Int)) q 3 V5 B5 C5 R5 (.inr rfl) (by omega) hVR
  simp only [List.setIfInBounds_toArray, List.set_cons_succ, List.set_cons_zero] at V6
  rw [← hw6]
  clear hw6 V5 B5 C5 R5 d3 fr3 HB3
  -- field 4
  have b4 : RB w6 (some ⟨g, 16, none⟩) (s.drop 16) := by
    have := B6.out.drop (c := 80) (by rw [hs.out]; omega) 16
    rwa [slA_some g 0 80 16 (by omega), Nat.zero_add] at this
  have HB4 := Lib.hid b4
  clear b4
  go_wp2_with fail
  refine (u32_RB big g 16 64 64 (s.drop 16) _ HB4.out (by rw [List.length_drop, hs.out]; omega) (by omega) (by omega)).mono ?_
  rintro e w' ⟨rfl, q, rfl⟩
  have d4 : w6.cell? ⟨V, 4, none⟩ = some (.int .u32 0) := cell_of_row _ V 4 _ _ _ V6.out
  have fr4 : w6.frozen? ⟨V, 4, none⟩ = false := frozen_of_row _ V 4 _ _ V6.out
  go_wp2_with fail
  obtain ⟨w7, hw7, V7, B7, C7, R7⟩ := storedDysymtabCmd (w0 := w) (x := .int .u32 ((num big ((s.drop 16).take 4) : Nat) : Int)) q 4 V6 B6 C6 R6 (.inr rfl) (by omega) hVR
  simp only [List.setIfInBounds_toArray, List.set_cons_succ, List.set_cons_zero] at V7
  rw [← hw7]
  clear hw7 V6 B6 C6 R6 d4 fr4 HB4
  -- field 5
  have b5 : RB w7 (some ⟨g, 20, none⟩) (s.drop 20) := by
    have := B7.out.drop (c := 80) (by rw [hs.out]; omega) 20
    rwa [slA_some g 0 80 20 (by omega), Nat.zero_add] at this
  have HB5 := Lib.hid b5
  clear b5
  go_wp2_with fail
  refine (u32_RB big g 20 60 60 (s.drop 20) _ HB5.out (by rw [List.length_drop, hs.out]; omega) (by omega) (by omega)).mono ?_
  rintro e w' ⟨rfl, q, rfl⟩
  have d5 : w7.cell? ⟨V, 5, none⟩ = some (.int .u32 0) := cell_of_row _ V 5 _ _ _ V7.out
  have fr5 : w7.frozen? ⟨V, 5, none⟩ = false := frozen_of_row _ V 5 _ _ V7.out
  go_wp2_with fail
  obtain ⟨w8, hw8, V8, B8, C8, R8⟩ := storedDysymtabCmd (w0 := w) (x := .int .u32 ((num big ((s.drop 20).take 4) : Nat) : Int)) q 5 V7 B7 C7 R7 (.inr rfl) (by omega) hVR
  simp only [List.setIfInBounds_toArray, List.set_cons_succ, List.set_cons_zero] at V8
  rw [← hw8]
  clear hw8 V7 B7 C7 R7 d5 fr5 HB5
  -- field 6
  have b6 : RB w8 (some ⟨g, 24, none⟩) (s.drop 24) := by
    have := B8.out.drop (c := 80) (by rw [hs.out]; omega) 24
    rwa [slA_some g 0 80 24 (by omega), Nat.zero_add] at this
  have HB6 := Lib.hid b6
  clear b6
  go_wp2_with fail
  refine (u32_RB big g 24 56 56 (s.drop 24) _ HB6.out (by rw [List.length_drop, hs.out]; omega) (by omega) (by omega)).mono ?_
  rintro e w' ⟨rfl, q, rfl⟩
  have d6 : w8.cell? ⟨V, 6, none⟩ = some (.int .u32 0) := cell_of_row _ V 6 _ _ _ V8.out
  have fr6 : w8.frozen? ⟨V, 6, none⟩ = false := frozen_of_row _ V 6 _ _ V8.out
  go_wp2_with fail
  obtain ⟨w9, hw9, V9, B9, C9, R9⟩ := storedDysymtabCmd (w0 := w) (x := .int .u32 ((num big ((s.drop 24).take 4) : Nat) : Int)) q 6 V8 B8 C8 R8 (.inr rfl) (by omega) hVR
  simp only [List.setIfInBounds_toArray, List.set_cons_succ, List.set_cons_zero] at V9
  rw [← hw9]
  clear hw9 V8 B8 C8 R8 d6 fr6 HB6
  -- field 7
  have b7 : RB w9 (some ⟨g, 28, none⟩) (s.drop 28) := by
    have := B9.out.drop (c := 80) (by rw [hs.out]; omega) 28
    rwa [slA_some g 0 80 28 (by omega), Nat.zero_add] at this
  have HB7 := Lib.hid b7
  clear b7
  go_wp2_with fail
  refine (u32_RB big g 28 52 52 (s.drop 28) _ HB7.out (by rw [List.length_drop, hs.out]; omega) (by omega) (by omega)).mono ?_
  rintro e w' ⟨rfl, q, rfl⟩
  have d7 : w9.cell? ⟨V, 7, none⟩ = some (.int .u32 0) := cell_of_row _ V 7 _ _ _ V9.out
  have fr7 : w9.frozen? ⟨V, 7, none⟩ = false := frozen_of_row _ V 7 _ _ V9.out
  go_wp2_with fail
  obtain ⟨w10, hw10, V10, B10, C10, R10⟩ := storedDysymtabCmd (w0 := w) (x := .int .u32 ((num big ((s.drop 28).take 4) : Nat) : Int)) q 7 V9 B9 C9 R9 (.inr rfl) (by omega) hVR
  simp only [List.setIfInBounds_toArray, List.set_cons_succ, List.set_cons_zero] at V10
  rw [← hw10]
  clear hw10 V9 B9 C9 R9 d7 fr7 HB7
  -- field 8
  have b8 : RB w10 (some ⟨g, 32, none⟩) (s.drop 32) := by
    have := B10.out.drop (c := 80) (by rw [hs.out]; omega) 32
    rwa [slA_some g 0 80 32 (by omega), Nat.zero_add] at this
  have HB8 := Lib.hid b8
  clear b8
  go_wp2_with fail
  refine (u32_RB big g 32 48 48 (s.drop 32) _ HB8.out (by rw [List.length_drop, hs.out]; omega) (by omega) (by omega)).mono ?_
  rintro e w' ⟨rfl, q, rfl⟩
  have d8 : w10.cell? ⟨V, 8, none⟩ = some (.int .u32 0) := cell_of_row _ V 8 _ _ _ V10.out
  have fr8 : w10.frozen? ⟨V, 8, none⟩ = false := frozen_of_row _ V 8 _ _ V10.out
  go_wp2_with fail
  obtain ⟨w11, hw11, V11, B11, C11, R11⟩ := storedDysymtabCmd (w0 := w) (x := .int .u32 ((num big ((s.drop 32).take 4) : Nat) : Int)) q 8 V10 B10 C10 R10 (.inr rfl) (by omega) hVR
  simp only [List.setIfInBounds_toArray, List.set_cons_succ, List.set_cons_zero] at V11
  rw [← hw11]
  clear hw11 V10 B10 C10 R10 d8 fr8 HB8
  -- field 9
  have b9 : RB w11 (some ⟨g, 36, none⟩) (s.drop 36) := by
    have := B11.out.drop (c := 80) (by rw [hs.out]; omega) 36
    rwa [slA_some g 0 80 36 (by omega), Nat.zero_add] at this
  have HB9 := Lib.hid b9
  clear b9
  go_wp2_with fail
  refine (u32_RB big g 36 44 44 (s.drop 36) _ HB9.out (by rw [List.length_drop, hs.out]; omega) (by omega) (by omega)).mono ?_
  rintro e w' ⟨rfl, q, rfl⟩
  have d9 : w11.cell? ⟨V, 9, none⟩ = some (.int .u32 0) := cell_of_row _ V 9 _ _ _ V11.out
  have fr9 : w11.frozen? ⟨V, 9, none⟩ = false := frozen_of_row _ V 9 _ _ V11.out
  go_wp2_with fail
  obtain ⟨w12, hw12, V12, B12, C12, R12⟩ := storedDysymtabCmd (w0 := w) (x := .int .u32 ((num big ((s.drop 36).take 4) : Nat) : Int)) q 9 V11 B11 C11 R11 (.inr rfl) (by omega) hVR
  simp only [List.setIfInBounds_toArray, List.set_cons_succ, List.set_cons_zero] at V12
  rw [← hw12]
  clear hw12 V11 B11 C11 R11 d9 fr9 HB9
  -- field 10
  have b10 : RB w12 (some ⟨g, 40, none⟩) (s.drop 40) := by
    have := B12.out.drop (c := 80) (by rw [hs.out]; omega) 40
    rwa [slA_some g 0 80 40 (by omega), Nat.zero_add] at this
  have HB10 := Lib.hid b10
  clear b10
  go_wp2_with fail
  refine (u32_RB big g 40 40 40 (s.drop 40) _ HB10.out (by rw [List.length_drop, hs.out]; omega) (by omega) (by omega)).mono ?_
  rintro e w' ⟨rfl, q, rfl⟩
  have d10 : w12.cell? ⟨V, 10, none⟩ = some (.int .u32 0) := cell_of_row _ V 10 _ _ _ V12.out
  have fr10 : w12.frozen? ⟨V, 10, none⟩ = false := frozen_of_row _ V 10 _ _ V12.out
  go_wp2_with fail
  obtain ⟨w13, hw13, V13, B13, C13, R13⟩ := storedDysymtabCmd (w0 := w) (x := .int .u32 ((num big ((s.drop 40).take 4) : Nat) : Int)) q 10 V12 B12 C12 R12 (.inr rfl) (by omega) hVR
  simp only [List.setIfInBounds_toArray, List.set_cons_succ, List.set_cons_zero] at V13
  rw [← hw13]
  clear hw13 V12 B12 C12 R12 d10 fr10 HB10
  -- field 11
  have b11 : RB w13 (some ⟨g, 44, none⟩) (s.drop 44) := by
    have := B13.out.drop (c := 80) (by rw [hs.out]; omega) 44
    rwa [slA_some g 0 80 44 (by omega), Nat.zero_add] at this
  have HB11 := Lib.hid b11
  clear b11
  go_wp2_with fail
  refine (u32_RB big g 44 36 36 (s.drop 44) _ HB11.out (by rw [List.length_drop, hs.out]; omega) (by omega) (by omega)).mono ?_
  rintro e w' ⟨rfl, q, rfl⟩
  have d11 : w13.cell? ⟨V, 11, none⟩ = some (.int .u32 0) := cell_of_row _ V 11 _ _ _ V13.out
  have fr11 : w13.frozen? ⟨V, 11, none⟩ = false := frozen_of_row _ V 11 _ _ V13.out
  go_wp2_with fail
  obtain ⟨w14, hw14, V14, B14, C14, R14⟩ := storedDysymtabCmd (w0 := w) (x := .int .u32 ((num big ((s.drop 44).take 4) : Nat) : Int)) q 11 V13 B13 C13 R13 (.inr rfl) (by omega) hVR
  simp only [List.setIfInBounds_toArray, List.set_cons_succ, List.set_cons_zero] at V14
  rw [← hw14]
  clear hw14 V13 B13 C13 R13 d11 fr11 HB11
  -- field 12
  have b12 : RB w14 (some ⟨g, 48, none⟩) (s.drop 48) := by
    have := B14.out.drop (c := 80) (by rw [hs.out]; omega) 48
    rwa [slA_some g 0 80 48 (by omega), Nat.zero_add] at this
  have HB12 := Lib.hid b12
  clear b12
  go_wp2_with fail
  refine (u32_RB big g 48 32 32 (s.drop 48) _ HB12.out (by rw [List.length_drop, hs.out]; omega) (by omega) (by omega)).mono ?_
  rintro e w' ⟨rfl, q, rfl⟩
  have d12 : w14.cell? ⟨V, 12, none⟩ = some (.int .u32 0) := cell_of_row _ V 12 _ _ _ V14.out
  have fr12 : w14.frozen? ⟨V, 12, none⟩ = false := frozen_of_row _ V 12 _ _ V14.out
  go_wp2_with fail
  obtain ⟨w15, hw15, V15, B15, C15, R15⟩ := storedDysymtabCmd (w0 := w) (x := .int .u32 ((num big ((s.drop 48).take 4) : Nat) : Int)) q 12 V14 B14 C14 R14 (.inr rfl) (by omega) hVR
  simp only [List.setIfInBounds_toArray, List.set_cons_succ, List.set_cons_zero] at V15
  rw [← hw15]
  clear hw15 V14 B14 C14 R14 d12 fr12 HB12
  -- field 13
  have b13 : RB w15 (some ⟨g, 52, none⟩) (s.drop 52) := by
    have := B15.out.drop (c := 80) (by rw [hs.out]; omega) 52
    rwa [slA_some g 0 80 52 (by omega), Nat.zero_add] at this
  have HB13 := Lib.hid b13
  clear b13
  go_wp2_with fail
  refine (u32_RB big g 52 28 28 (s.drop 52) _ HB13.out (by rw [List.length_drop, hs.out]; omega) (by omega) (by omega)).mono ?_
  rintro e w' ⟨rfl, q, rfl⟩
  have d13 : w15.cell? ⟨V, 13, none⟩ = some (.int .u32 0) := cell_of_row _ V 13 _ _ _ V15.out
  have fr13 : w15.frozen? ⟨V, 13, none⟩ = false := frozen_of_row _ V 13 _ _ V15.out
  go_wp2_with fail
  obtain ⟨w16, hw16, V16, B16, C16, R16⟩ := storedDysymtabCmd (w0 := w) (x := .int .u32 ((num big ((s.drop 52).take 4) : Nat) : Int)) q 13 V15 B15 C15 R15 (.inr rfl) (by omega) hVR
  simp only [List.setIfInBounds_toArray, List.set_cons_succ, List.set_cons_zero] at V16
  rw [← hw16]
  clear hw16 V15 B15 C15 R15 d13 fr13 HB13
  -- field 14
  have b14 : RB w16 (some ⟨g, 56, none⟩) (s.drop 56) := by
    have := B16.out.drop (c := 80) (by rw [hs.out]; omega) 56
    rwa [slA_some g 0 80 56 (by omega), Nat.zero_add] at this
  have HB14 := Lib.hid b14
  clear b14
  go_wp2_with fail
  refine (u32_RB big g 56 24 24 (s.drop 56) _ HB14.out (by rw [List.length_drop, hs.out]; omega) (by omega) (by omega)).mono ?_
  rintro e w' ⟨rfl, q, rfl⟩
  have d14 : w16.cell? ⟨V, 14, none⟩ = some (.int .u32 0) := cell_of_row _ V 14 _ _ _ V16.out
  have fr14 : w16.frozen? ⟨V, 14, none⟩ = false := frozen_of_row _ V 14 _ _ V16.out
  go_wp2_with fail
  obtain ⟨w17, hw17, V17, B17, C17, R17⟩ := storedDysymtabCmd (w0 := w) (x := .int .u32 ((num big ((s.drop 56).take 4) : Nat) : Int)) q 14 V16 B16 C16 R16 (.inr rfl) (by omega) hVR
  simp only [List.setIfInBounds_toArray, List.set_cons_succ, List.set_cons_zero] at V17
  rw [← hw17]
  clear hw17 V16 B16 C16 R16 d14 fr14 HB14
  -- field 15
  have b15 : RB w17 (some ⟨g, 60, none⟩) (s.drop 60) := by
    have := B17.out.drop (c := 80) (by rw [hs.out]; omega) 60
    rwa [slA_some g 0 80 60 (by omega), Nat.zero_add] at this
  have HB15 := Lib.hid b15
  clear b15
  go_wp2_with fail
  refine (u32_RB big g 60 20 20 (s.drop 60) _ HB15.out (by rw [List.length_drop, hs.out]; omega) (by omega) (by omega)).mono ?_
  rintro e w' ⟨rfl, q, rfl⟩
  have d15 : w17.cell? ⟨V, 15, none⟩ = some (.int .u32 0) := cell_of_row _ V 15 _ _ _ V17.out
  have fr15 : w17.frozen? ⟨V, 15, none⟩ = false := frozen_of_row _ V 15 _ _ V17.out
  go_wp2_with fail
  obtain ⟨w18, hw18, V18, B18, C18, R18⟩ := storedDysymtabCmd (w0 := w) (x := .int .u32 ((num big ((s.drop 60).take 4) : Nat) : Int)) q 15 V17 B17 C17 R17 (.inr rfl) (by omega) hVR
  simp only [List.setIfInBounds_toArray, List.set_cons_succ, List.set_cons_zero] at V18
  rw [← hw18]
  clear hw18 V17 B17 C17 R17 d15 fr15 HB15
  -- field 16
  have b16 : RB w18 (some ⟨g, 64, none⟩) (s.drop 64) := by
    have := B18.out.drop (c := 80) (by rw [hs.out]; omega) 64
    rwa [slA_some g 0 80 64 (by omega), Nat.zero_add] at this
  have HB16 := Lib.hid b16
  clear b16
  go_wp2_with fail
  refine (u32_RB big g 64 16 16 (s.drop 64) _ HB16.out (by rw [List.length_drop, hs.out]; omega) (by omega) (by omega)).mono ?_
  rintro e w' ⟨rfl, q, rfl⟩
  have d16 : w18.cell? ⟨V, 16, none⟩ = some (.int .u32 0) := cell_of_row _ V 16 _ _ _ V18.out
  have fr16 : w18.frozen? ⟨V, 16, none⟩ = false := frozen_of_row _ V 16 _ _ V18.out
  go_wp2_with fail
  obtain ⟨w19, hw19, V19, B19, C19, R19⟩ := storedDysymtabCmd (w0 := w) (x := .int .u32 ((num big ((s.drop 64).take 4) : Nat) : Int)) q 16 V18 B18 C18 R18 (.inr rfl) (by omega) hVR
  simp only [List.setIfInBounds_toArray, List.set_cons_succ, List.set_cons_zero] at V19
  rw [← hw19]
  clear hw19 V18 B18 C18 R18 d16 fr16 HB16
  -- field 17
  have b17 : RB w19 (some ⟨g, 68, none⟩) (s.drop 68) := by
    have := B19.out.drop (c := 80) (by rw [hs.out]; omega) 68
    rwa [slA_some g 0 80 68 (by omega), Nat.zero_add] at this
  have HB17 := Lib.hid b17
  clear b17
  go_wp2_with fail
  refine (u32_RB big g 68 12 12 (s.drop 68) _ HB17.out (by rw [List.length_drop, hs.out]; omega) (by omega) (by omega)).mono ?_
  rintro e w' ⟨rfl, q, rfl⟩
  have d17 : w19.cell? ⟨V, 17, none⟩ = some (.int .u32 0) := cell_of_row _ V 17 _ _ _ V19.out
  have fr17 : w19.frozen? ⟨V, 17, none⟩ = false := frozen_of_row _ V 17 _ _ V19.out
  go_wp2_with fail
  obtain ⟨w20, hw20, V20, B20, C20, R20⟩ := storedDysymtabCmd (w0 := w) (x := .int .u32 ((num big ((s.drop 68).take 4) : Nat) : Int)) q 17 V19 B19 C19 R19 (.inr rfl) (by omega) hVR
  simp only [List.setIfInBounds_toArray, List.set_cons_succ, List.set_cons_zero] at V20
  rw [← hw20]
  clear hw20 V19 B19 C19 R19 d17 fr17 HB17
  -- field 18
  have b18 : RB w20 (some ⟨g, 72, none⟩) (s.drop 72) := by
    have := B20.out.drop (c := 80) (by rw [hs.out]; omega) 72
    rwa [slA_some g 0 80 72 (by omega), Nat.zero_add] at this
  have HB18 := Lib.hid b18
  clear b18
  go_wp2_with fail
  refine (u32_RB big g 72 8 8 (s.drop 72) _ HB18.out (by rw [List.length_drop, hs.out]; omega) (by omega) (by omega)).mono ?_
  rintro e w' ⟨rfl, q, rfl⟩
  have d18 : w20.cell? ⟨V, 18, none⟩ = some (.int .u32 0) := cell_of_row _ V 18 _ _ _ V20.out
  have fr18 : w20.frozen? ⟨V, 18, none⟩ = false := frozen_of_row _ V 18 _ _ V20.out
  go_wp2_with fail
  obtain ⟨w21, hw21, V21, B21, C21, R21⟩ := storedDysymtabCmd (w0 := w) (x := .int .u32 ((num big ((s.drop 72).take 4) : Nat) : Int)) q 18 V20 B20 C20 R20 (.inr rfl) (by omega) hVR
  simp only [List.setIfInBounds_toArray, List.set_cons_succ, List.set_cons_zero] at V21
  rw [← hw21]
  clear hw21 V20 B20 C20 R20 d18 fr18 HB18
  -- field 19
  have b19 : RB w21 (some ⟨g, 76, none⟩) (s.drop 76) := by
    have := B21.out.drop (c := 80) (by rw [hs.out]; omega) 76
    rwa [slA_some g 0 80 76 (by omega), Nat.zero_add] at this
  have HB19 := Lib.hid b19
  clear b19
  go_wp2_with fail
  refine (u32_RB big g 76 4 4 (s.drop 76) _ HB19.out (by rw [List.length_drop, hs.out]; omega) (by omega) (by omega)).mono ?_
  rintro e w' ⟨rfl, q, rfl⟩
  have d19 : w21.cell? ⟨V, 19, none⟩ = some (.int .u32 0) := cell_of_row _ V 19 _ _ _ V21.out
  have fr19 : w21.frozen? ⟨V, 19, none⟩ = false := frozen_of_row _ V 19 _ _ V21.out
  go_wp2
  obtain ⟨w22, hw22, V22, B22, C22, R22⟩ := storedDysymtabCmd (w0 := w) (x := .int .u32 ((num big ((s.drop 76).take 4) : Nat) : Int)) q 19 V21 B21 C21 R21 (.inr rfl) (by omega) hVR
  simp only [List.setIfInBounds_toArray, List.set_cons_succ, List.set_cons_zero] at V22
  rw [← hw22]
  clear hw22 V21 B21 C21 R21 d19 fr19 HB19
  go_ret
  exact ⟨rfl, R22, V22, C22⟩


set_option maxRecDepth 100000 in
set_option maxHeartbeats 1000000 in
theorem readDysymtabCmd_short (V R : Nat) (A : Option Addr) (l : List UInt8) (n c pos : Nat) (pv : Value) (big : Bool) (TR : TypeId) (w : World) (TE TU : TypeId) (vE vU : Value) (hErr : Hid (ErrsAt w TE TU vE vU))
    (hN : Hid (n = l.length)) (hb : n ≤ 2147483647) (hpos : n < pos + 80) (hnc : n ≤ c) (h3 : 3 ≤ R)
    (hR : Hid (w.heap[R]? = some (.cells #[.slice A n c, .int .i64 pos, pv] TR (0, 0)))) (hA : Hid (RB w A l)) (hAR : ∀ a, A = some a → a.block ≠ R ∧ a.block < w.heap.size) :
    Calls Tryd.prog 51 #[.pointer (some ⟨V, 0, none⟩), .iface 102 (.pointer (some ⟨R, 0, none⟩)), .int .u8 (ordn big)] w fun e w' => (∃ T v, e = .returned (.iface T v)) ∧ Chg (fun k => k = R) w w' := by
  obtain ⟨cur, hF, hmk⟩ := makeBytes 80 (by omega)
  have hmk : ∀ w, (Instr.makeSlice 22 (.int .i64 80) (.int .i64 80)).run Tryd.prog w = .ok (.slice (some ⟨w.heap.size, 0, none⟩) 80 80) (w.alloc (.cells cur.toArray 5)) := hmk
  have hRlt : R < w.heap.size := (Array.getElem?_eq_some_iff.1 hR.out).1
  have g1 := Lib.hid (heap_alloc_new w (.cells cur.toArray 5))
  have c0 : Chg (fun k => k = R) w (w.alloc (.cells cur.toArray 5)) := (Chg.refl _ w).alloc _
  have R1 := Lib.hid ((Below.heap_alloc w (.cells cur.toArray 5) R hRlt).trans hR.out)
  have A1 := Lib.hid (hA.out.later ((Below.refl _ w).alloc (Nat.le_refl _) (.cells cur.toArray 5)))
  have E1 := Lib.hid (hErr.out.chg c0 (fun e => by omega) (fun e => by omega))
  go_enter Tryd.func51, Tryd.ntmps51
  go_wp2_with fail
  refine (readFull_short R w.heap.size A l n c pos 80 pv TR 5 cur _ TE TU vE vU E1 hN hb hpos (by omega) (by omega) hnc ⟨h3, by omega⟩ (by omega) R1 g1 hF A1.out (fun a ha => ⟨(hAR a ha).1, by have := (hAR a ha).2; omega⟩)).mono ?_
  rintro e w2 ⟨⟨x, T, v, rfl⟩, hc2⟩
  have C2 : Chg (fun k => k = R) w w2 := c0.trans (hc2.mono fun k _ e => by rcases e with e | e <;> omega)
  clear hc2 g1 c0 R1 A1 hmk
  go_wp2
  go_ret
  exact ⟨⟨_, _, rfl⟩, C2⟩

theorem oneDysymtabCmd (big : Bool) (s : List UInt8) : ∀ v ∈ (fDysymtabCmd big s).toArray.toList, v.oneCell' = true := List.all_eq_true.1 (show (fDysymtabCmd big s).all (·.oneCell') = true from rfl)

set_option maxRecDepth 100000 in
set_option maxHeartbeats 1000000 in
theorem zzDysymtabCmd_all (A : Option Addr) (l : List UInt8) (n c : Nat) (big : Bool) (w : World)
    (hN : Hid (n = l.length)) (hb : n ≤ 2147483647) (hZ : 80 ≤ n) (hnc : n ≤ c) (hA : Hid (RB w A l)) (hAl : ∀ a, A = some a → a.block < w.heap.size) :
    Calls Tryd.prog 37 #[.int .u8 (ordn big), .slice A n c] w fun e w' => e = .returned (.tuple #[.agg (fDysymtabCmd big (l.take 80)).toArray, .nilIface]) ∧ Below w.heap.size w w' := by
  have hV := Lib.hid (heap_alloc2_old w (.cells #[.int .u32 0, .int .u32 0, .int .u32 0, .int .u32 0, .int .u32 0, .int .u32 0, .int .u32 0, .int .u32 0, .int .u32 0, .int .u32 0, .int .u32 0, .int .u32 0, .int .u32 0, .int .u32 0, .int .u32 0, .int .u32 0, .int .u32 0, .int .u32 0, .int .u32 0, .int .u32 0] 71) (.cells #[.slice A n c, .int .i64 0, .int .i64 (-1)] 112))
  have hR := Lib.hid (heap_alloc2_new w (.cells #[.int .u32 0, .int .u32 0, .int .u32 0, .int .u32 0, .int .u32 0, .int .u32 0, .int .u32 0, .int .u32 0, .int .u32 0, .int .u32 0, .int .u32 0, .int .u32 0, .int .u32 0, .int .u32 0, .int .u32 0, .int .u32 0, .int .u32 0, .int .u32 0, .int .u32 0, .int .u32 0] 71) (.cells #[.slice A n c, .int .i64 0, .int .i64 (-1)] 112))
  have hb0 : Below w.heap.size w ((w.alloc (.cells #[.int .u32 0, .int .u32 0, .int .u32 0, .int .u32 0, .int .u32 0, .int .u32 0, .int .u32 0, .int .u32 0, .int .u32 0, .int .u32 0, .int .u32 0, .int .u32 0, .int .u32 0, .int .u32 0, .int .u32 0, .int .u32 0, .int .u32 0, .int .u32 0, .int .u32 0, .int .u32 0] 71)).alloc (.cells #[.slice A n c, .int .i64 0, .int .i64 (-1)] 112)) := ((Below.refl _ _).alloc (Nat.le_refl _) _).alloc (by simp) _
  have hA2 := Lib.hid (hA.out.later hb0)
  have hsz : ((w.alloc (.cells #[.int .u32 0, .int .u32 0, .int .u32 0, .int .u32 0, .int .u32 0, .int .u32 0, .int .u32 0, .int .u32 0, .int .u32 0, .int .u32 0, .int .u32 0, .int .u32 0, .int .u32 0, .int .u32 0, .int .u32 0, .int .u32 0, .int .u32 0, .int .u32 0, .int .u32 0, .int .u32 0] 71)).alloc (.cells #[.slice A n c, .int .i64 0, .int .i64 (-1)] 112)).heap.size = w.heap.size + 2 := by simp
  have HS := Lib.hid hsz
  clear hsz
  go_enter Tryd.func37, Tryd.ntmps37
  go_wp2_with fail
  refine (newReader _ A n c rfl _).mono ?_
  rintro e w' ⟨rfl, rfl⟩
  go_wp2_with fail
  refine (readDysymtabCmd_all w.heap.size (w.heap.size + 1) A l n c 0 (.int .i64 (-1)) big 112 71 _ hN hb (by omega) hnc (by omega) hR hV hA2 (fun a ha => by have := hAl a ha; rw [HS.out]; omega)).mono ?_
  rintro e w3 ⟨rfl, R3, V3, C3⟩
  rw [List.drop_zero] at V3
  have hb3 : Below w.heap.size w w3 := hb0.trans (C3.below (by rw [HS.out]; omega) (fun k hk e => by rcases e with e | e <;> omega))
  clear R3 C3 hb0
  go_wp2_with (first | (refine wpList_load_row rfl 71 _ rfl w.heap.size rfl 71 (fDysymtabCmd big (l.take 80)).toArray (0, 0) _ V3.out Tryd.underlying71 rfl (by kernel_rfl) ?_) | (refine wpList_store_self rfl 71 _ _ rfl w.heap.size 71 (fDysymtabCmd big (l.take 80)).toArray rfl rfl V3.out (by kernel_rfl) (oneDysymtabCmd _ _) ?_))
  exact bodyPost_ret (results_cell_tmp rfl _ _ w.heap.size 71 (fDysymtabCmd big (l.take 80)).toArray (0, 0) _ rfl V3.out Tryd.underlying71 rfl (by kernel_rfl)) rfl ⟨rfl, hb3⟩

set_option maxRecDepth 100000 in
set_option maxHeartbeats 1000000 in
theorem zzDysymtabCmd_short (A : Option Addr) (l : List UInt8) (n c : Nat) (big : Bool) (w : World) (TE TU : TypeId) (vE vU : Value) (hErr : Hid (ErrsAt w TE TU vE vU)) (h3 : 3 ≤ w.heap.size)
    (hN : Hid (n = l.length)) (hb : n ≤ 2147483647) (hZ : n < 80) (hnc : n ≤ c) (hA : Hid (RB w A l)) (hAl : ∀ a, A = some a → a.block < w.heap.size) :
    Calls Tryd.prog 37 #[.int .u8 (ordn big), .slice A n c] w fun e w' => (∃ T v, e = .returned (.tuple #[.agg #[.int .u32 0, .int .u32 0, .int .u32 0, .int .u32 0, .int .u32 0, .int .u32 0, .int .u32 0, .int .u32 0, .int .u32 0, .int .u32 0, .int .u32 0, .int .u32 0, .int .u32 0, .int .u32 0, .int .u32 0, .int .u32 0, .int .u32 0, .int .u32 0, .int .u32 0, .int .u32 0], .iface T v])) ∧ Below w.heap.size w w' := by
  have hV := Lib.hid (heap_alloc2_old w (.cells #[.int .u32 0, .int .u32 0, .int .u32 0, .int .u32 0, .int .u32 0, .int .u32 0, .int .u32 0, .int .u32 0, .int .u32 0, .int .u32 0, .int .u32 0, .int .u32 0, .int .u32 0, .int .u32 0, .int .u32 0, .int .u32 0, .int .u32 0, .int .u32 0, .int .u32 0, .int .u32 0] 71) (.cells #[.slice A n c, .int .i64 0, .int .i64 (-1)] 112))
  have hR := Lib.hid (heap_alloc2_new w (.cells #[.int .u32 0, .int .u32 0, .int .u32 0, .int .u32 0, .int .u32 0, .int .u32 0, .int .u32 0, .int .u32 0, .int .u32 0, .int .u32 0, .int .u32 0, .int .u32 0, .int .u32 0, .int .u32 0, .int .u32 0, .int .u32 0, .int .u32 0, .int .u32 0, .int .u32 0, .int .u32 0] 71) (.cells #[.slice A n c, .int .i64 0, .int .i64 (-1)] 112))
  have hb0 : Below w.heap.size w ((w.alloc (.cells #[.int .u32 0, .int .u32 0, .int .u32 0, .int .u32 0, .int .u32 0, .int .u32 0, .int .u32 0, .int .u32 0, .int .u32 0, .int .u32 0, .int .u32 0, .int .u32 0, .int .u32 0, .int .u32 0, .int .u32 0, .int .u32 0, .int .u32 0, .int .u32 0, .int .u32 0, .int .u32 0] 71)).alloc (.cells #[.slice A n c, .int .i64 0, .int .i64 (-1)] 112)) := ((Below.refl _ _).alloc (Nat.le_refl _) _).alloc (by simp) _
  have hA2 := Lib.hid (hA.out.later hb0)
  have hE2 := Lib.hid (hErr.out.chg (Chg.of_below (S := fun k => w.heap.size ≤ k) hb0 (fun k _ h => h)) (by omega) (by omega))
  have hsz : ((w.alloc (.cells #[.int .u32 0, .int .u32 0, .int .u32 0, .int .u32 0, .int .u32 0, .int .u32 0, .int .u32 0, .int .u32 0, .int .u32 0, .int .u32 0, .int .u32 0, .int .u32 0, .int .u32 0, .int .u32 0, .int .u32 0, .int .u32 0, .int .u32 0, .int .u32 0, .int .u32 0, .int .u32 0] 71)).alloc (.cells #[.slice A n c, .int .i64 0, .int .i64 (-1)] 112)).heap.size = w.heap.size + 2 := by simp
  have HS := Lib.hid hsz
  clear hsz
  go_enter Tryd.func37, Tryd.ntmps37
  go_wp2_with fail
  refine (newReader _ A n c rfl _).mono ?_
  rintro e w' ⟨rfl, rfl⟩
  go_wp2_with fail
  refine (readDysymtabCmd_short w.heap.size (w.heap.size + 1) A l n c 0 (.int .i64 (-1)) big 112 _ TE TU vE vU hE2 hN hb (by omega) hnc (by omega) hR hA2 (fun a ha => by have := hAl a ha; rw [HS.out]; omega)).mono ?_
  rintro e w3 ⟨⟨TX, vX, rfl⟩, C3⟩
  have V3 : Hid (w3.heap[w.heap.size]? = some (.cells #[.int .u32 0, .int .u32 0, .int .u32 0, .int .u32 0, .int .u32 0, .int .u32 0, .int .u32 0, .int .u32 0, .int .u32 0, .int .u32 0, .int .u32 0, .int .u32 0, .int .u32 0, .int .u32 0, .int .u32 0, .int .u32 0, .int .u32 0, .int .u32 0, .int .u32 0, .int .u32 0] 71 (0, 0))) := Lib.hid (C3.row hV.out (by omega))
  have hb3 : Below w.heap.size w w3 := hb0.trans (C3.below (by rw [HS.out]; omega) (fun k hk e => by omega))
  clear C3 hb0
  go_wp2_with (first | (refine wpList_load_row rfl 71 _ rfl w.heap.size rfl 71 #[.int .u32 0, .int .u32 0, .int .u32 0, .int .u32 0, .int .u32 0, .int .u32 0, .int .u32 0, .int .u32 0, .int .u32 0, .int .u32 0, .int .u32 0, .int .u32 0, .int .u32 0, .int .u32 0, .int .u32 0, .int .u32 0, .int .u32 0, .int .u32 0, .int .u32 0, .int .u32 0] (0, 0) _ V3.out Tryd.underlying71 rfl (by kernel_rfl) ?_) | (refine wpList_store_self rfl 71 _ _ rfl w.heap.size 71 #[.int .u32 0, .int .u32 0, .int .u32 0, .int .u32 0, .int .u32 0, .int .u32 0, .int .u32 0, .int .u32 0, .int .u32 0, .int .u32 0, .int .u32 0, .int .u32 0, .int .u32 0, .int .u32 0, .int .u32 0, .int .u32 0, .int .u32 0, .int .u32 0, .int .u32 0, .int .u32 0] rfl rfl V3.out (by kernel_rfl) (List.all_eq_true.1 rfl) ?_))
  exact bodyPost_ret (results_cell_tmp rfl _ _ w.heap.size 71 #[.int .u32 0, .int .u32 0, .int .u32 0, .int .u32 0, .int .u32 0, .int .u32 0, .int .u32 0, .int .u32 0, .int .u32 0, .int .u32 0, .int .u32 0, .int .u32 0, .int .u32 0, .int .u32 0, .int .u32 0, .int .u32 0, .int .u32 0, .int .u32 0, .int .u32 0, .int .u32 0] (0, 0) _ rfl V3.out Tryd.underlying71 rfl (by kernel_rfl)) rfl ⟨⟨_, _, rfl⟩, hb3⟩

end Go.Proofs.YtcdknbclhdllkaaDoor
