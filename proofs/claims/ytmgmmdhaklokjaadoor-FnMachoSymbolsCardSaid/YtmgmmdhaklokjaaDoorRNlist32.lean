/-
  The contracts of the functions that read the struct Nlist32 (read).
-/
import Derived.Test.YtmgmmdhaklokjaaDoorOrd
import Derived.Test.YtmgmmdhaklokjaaDoorRdr
import Derived.Test.YtmgmmdhaklokjaaDoorRow
import Derived.Test.YtmgmmdhaklokjaaDoorName
import Derived.Test.YtmgmmdhaklokjaaDoorNum1
namespace Go.Proofs.YtmgmmdhaklokjaaDoor
set_option linter.unusedVariables false
set_option linter.unusedSimpArgs false
open Go Go.RowKit
attribute [local go_sem ↓] Go.wp_at_zero Go.wp_at_succ

/-- The fields of Nlist32 out of its bytes. -/
def fRNlist32 (big : Bool) (s : List UInt8) : List Value := [.int .u32 ((num big (s.take 4) : Nat) : Int), .int .u8 ((num big ((s.drop 4).take 1) : Nat) : Int), .int .u8 ((num big ((s.drop 5).take 1) : Nat) : Int), .int .u16 ((num big ((s.drop 6).take 2) : Nat) : Int), .int .u32 ((num big ((s.drop 8).take 4) : Nat) : Int)]
theorem oneRNlist32 (big : Bool) (s : List UInt8) : ∀ v ∈ (fRNlist32 big s).toArray.toList, v.oneCell' = true := by
  refine List.all_eq_true.1 (show (fRNlist32 big s).all (·.oneCell') = true from ?_)
  rfl
theorem sizeRNlist32 (big : Bool) (s : List UInt8) (h : s.length = 12) : (fRNlist32 big s).toArray.size = 5 := by
  first | (simp [fRNlist32]; done) | (simp [fRNlist32]; omega)

set_option maxRecDepth 100000 in
set_option maxHeartbeats 2000000 in
theorem readRNlist32_all (V M : Nat) (rd : Value) (D : Nat → Prop) (l : List UInt8) (pos : Nat) (big : Bool) (TV : TypeId) (w : World)
    (hR : Hid (Rdr w rd M D l pos)) (hpos : Hid (pos + 12 ≤ l.length)) (hVM : V ≠ M) (hVD : Hid (¬ D V))
    (hV : Hid (w.heap[V]? = some (.cells #[.int .u32 0, .int .u8 0, .int .u8 0, .int .u16 0, .int .u32 0] TV (0, 0)))) :
    Calls Tryd.prog 32 #[.pointer (some ⟨V, 0, none⟩), rd, .int .u8 (ordn big)] w fun e w' => e = .returned .nilIface ∧
      Hid (Rdr w' rd M D l (pos + 12)) ∧ Hid (w'.heap[V]? = some (.cells (fRNlist32 big ((l.drop pos).take 12)).toArray TV (0, 0))) ∧ Chg (fun k => k = M ∨ k = V) w w' := by
  obtain ⟨cur, hF, hmk⟩ := makeBytes 12 (by omega)
  have hmk : ∀ w, (Instr.makeSlice 23 (.int .i64 12) (.int .i64 12)).run Tryd.prog w = .ok (.slice (some ⟨w.heap.size, 0, none⟩) 12 12) (w.alloc (.cells cur.toArray 5)) := hmk
  have hRlt : M < w.heap.size := hR.out.lt
  have hVlt : V < w.heap.size := (Array.getElem?_eq_some_iff.1 hV.out).1
  have hs := Lib.hid (show ((l.drop pos).take 12).length = 12 by have := hpos.out; simp; omega)
  have g1 := Lib.hid (heap_alloc_new w (.cells cur.toArray 5))
  have c0 : Chg (fun k => k = M ∨ k = V) w (w.alloc (.cells cur.toArray 5)) := (Chg.refl _ w).alloc _
  have V1 := Lib.hid ((Below.heap_alloc w (.cells cur.toArray 5) V hVlt).trans hV.out)
  have R1 := Lib.hid (hR.out.later ((Below.refl _ w).alloc (Nat.le_refl _) (.cells cur.toArray 5)))
  have hgD : Hid (¬ D w.heap.size) := Lib.hid (fun e => absurd (hR.out.d _ e).1 (Nat.lt_irrefl _))
  obtain ⟨s, hS⟩ : ∃ s, (l.drop pos).take 12 = s := ⟨_, rfl⟩
  rw [hS] at hs ⊢
  have HS := Lib.hid hS
  clear hS
  go_enter Tryd.func32, Tryd.ntmps32
  go_wp2_with fail
  refine (rdr_full rd M w.heap.size D l pos 12 5 cur _ R1 hpos (by omega) g1 hF hgD (by omega)).mono ?_
  rintro e w2 ⟨rfl, R2, g2, hc2, hs2⟩
  rw [HS.out] at g2
  have V2 : Hid (w2.heap[V]? = some (.cells #[.int .u32 0, .int .u8 0, .int .u8 0, .int .u16 0, .int .u32 0] TV (0, 0))) := Lib.hid (hc2.row V1.out (by omega))
  have B2 : Hid (RB w2 (some ⟨w.heap.size, 0, none⟩) s) := Lib.hid (RB.of_row g2.out)
  have C2 : Chg (fun k => k = M ∨ k = V) w w2 := c0.trans (hc2.mono fun k _ e => by rcases e with e | e <;> omega)
  clear hs2 hc2 g2 g1 c0 V1 R1 hmk hgD
  generalize w.heap.size = g at *
  -- field 0
  have b0 : RB w2 (some ⟨g, 0, none⟩) s := by
    have := B2.out.drop (c := 12) (by rw [hs.out]; omega) 0
    rwa [slA_some g 0 12 0 (by omega), Nat.zero_add, List.drop_zero] at this
  have HB0 := Lib.hid b0
  clear b0
  go_wp2_with fail
  refine (u32_RB big g 0 12 12 s _ HB0.out (by rw [hs.out]; omega) (by omega) (by omega)).mono ?_
  rintro e w' ⟨rfl, q, rfl⟩
  have d0 : w2.cell? ⟨V, 0, none⟩ = some (.int .u32 0) := cell_of_row _ V 0 _ _ _ V2.out
  have fr0 : w2.frozen? ⟨V, 0, none⟩ = false := frozen_of_row _ V 0 _ _ V2.out
  have d1 : w2.cell? ⟨V, 1, none⟩ = some (.int .u8 0) := cell_of_row _ V 1 _ _ _ V2.out
  have fr1 : w2.frozen? ⟨V, 1, none⟩ = false := frozen_of_row _ V 1 _ _ V2.out
  have u1 : w2.cell? ⟨g, 4, none⟩ = some (.int .u8 ((num big ((s.drop 4).take 1) : Nat) : Int)) := num1 big B2.out 4 (by rw [hs.out]; omega)
  have d2 : w2.cell? ⟨V, 2, none⟩ = some (.int .u8 0) := cell_of_row _ V 2 _ _ _ V2.out
  have fr2 : w2.frozen? ⟨V, 2, none⟩ = false := frozen_of_row _ V 2 _ _ V2.out
  have u2 : w2.cell? ⟨g, 5, none⟩ = some (.int .u8 ((num big ((s.drop 5).take 1) : Nat) : Int)) := num1 big B2.out 5 (by rw [hs.out]; omega)
  have hgV : ¬ V = g := by omega
  have hVg : ¬ g = V := by omega
  go_wp2_with fail
  obtain ⟨w3, hw3, V3, B3, C3, R3⟩ := storedV (w0 := w) (x := .int .u32 ((num big (s.take 4) : Nat) : Int)) q 0 V2 B2 C2 R2 (.inr rfl) (by omega) hVM hVD
  simp only [List.setIfInBounds_toArray, List.set_cons_succ, List.set_cons_zero] at V3
  rw [← hw3]
  clear hw3 V2 B2 C2 R2 d0 fr0 HB0
  obtain ⟨w4, hw4, V4, B4, C4, R4⟩ := storedV0 (w0 := w) (x := .int .u8 ((num big ((s.drop 4).take 1) : Nat) : Int)) 1 V3 B3 C3 R3 (.inr rfl) (by omega) hVM hVD
  simp only [List.setIfInBounds_toArray, List.set_cons_succ, List.set_cons_zero] at V4
  rw [← hw4]
  clear hw4 V3 B3 C3 R3 d1 fr1 u1
  obtain ⟨w5, hw5, V5, B5, C5, R5⟩ := storedV0 (w0 := w) (x := .int .u8 ((num big ((s.drop 5).take 1) : Nat) : Int)) 2 V4 B4 C4 R4 (.inr rfl) (by omega) hVM hVD
  simp only [List.setIfInBounds_toArray, List.set_cons_succ, List.set_cons_zero] at V5
  rw [← hw5]
  clear hw5 V4 B4 C4 R4 d2 fr2 u2
  clear hgV hVg
  -- field 3
  have b3 : RB w5 (some ⟨g, 6, none⟩) (s.drop 6) := by
    have := B5.out.drop (c := 12) (by rw [hs.out]; omega) 6
    rwa [slA_some g 0 12 6 (by omega), Nat.zero_add] at this
  have HB3 := Lib.hid b3
  clear b3
  go_wp2_with fail
  refine (u16_RB big g 6 6 6 (s.drop 6) _ HB3.out (by rw [List.length_drop, hs.out]; omega) (by omega) (by omega)).mono ?_
  rintro e w' ⟨rfl, q, rfl⟩
  have d3 : w5.cell? ⟨V, 3, none⟩ = some (.int .u16 0) := cell_of_row _ V 3 _ _ _ V5.out
  have fr3 : w5.frozen? ⟨V, 3, none⟩ = false := frozen_of_row _ V 3 _ _ V5.out
  go_wp2_with fail
  obtain ⟨w6, hw6, V6, B6, C6, R6⟩ := storedV (w0 := w) (x := .int .u16 ((num big ((s.drop 6).take 2) : Nat) : Int)) q 3 V5 B5 C5 R5 (.inr rfl) (by omega) hVM hVD
  simp only [List.setIfInBounds_toArray, List.set_cons_succ, List.set_cons_zero] at V6
  rw [← hw6]
  clear hw6 V5 B5 C5 R5 d3 fr3 HB3
  -- field 4
  have b4 : RB w6 (some ⟨g, 8, none⟩) (s.drop 8) := by
    have := B6.out.drop (c := 12) (by rw [hs.out]; omega) 8
    rwa [slA_some g 0 12 8 (by omega), Nat.zero_add] at this
  have HB4 := Lib.hid b4
  clear b4
  go_wp2_with fail
  refine (u32_RB big g 8 4 4 (s.drop 8) _ HB4.out (by rw [List.length_drop, hs.out]; omega) (by omega) (by omega)).mono ?_
  rintro e w' ⟨rfl, q, rfl⟩
  have d4 : w6.cell? ⟨V, 4, none⟩ = some (.int .u32 0) := cell_of_row _ V 4 _ _ _ V6.out
  have fr4 : w6.frozen? ⟨V, 4, none⟩ = false := frozen_of_row _ V 4 _ _ V6.out
  go_wp2
  obtain ⟨w7, hw7, V7, B7, C7, R7⟩ := storedV (w0 := w) (x := .int .u32 ((num big ((s.drop 8).take 4) : Nat) : Int)) q 4 V6 B6 C6 R6 (.inr rfl) (by omega) hVM hVD
  simp only [List.setIfInBounds_toArray, List.set_cons_succ, List.set_cons_zero] at V7
  rw [← hw7]
  clear hw7 V6 B6 C6 R6 d4 fr4 HB4
  go_ret
  exact ⟨rfl, R7, V7, C7⟩

set_option maxRecDepth 100000 in
set_option maxHeartbeats 1000000 in
theorem readRNlist32_short (V M : Nat) (rd : Value) (D : Nat → Prop) (l : List UInt8) (pos : Nat) (big : Bool) (w : World) (TE TU : TypeId) (vE vU : Value) (hErr : Hid (ErrsAt w TE TU vE vU))
    (hR : Hid (Rdr w rd M D l pos)) (hpos : Hid (l.length < pos + 12)) :
    Calls Tryd.prog 32 #[.pointer (some ⟨V, 0, none⟩), rd, .int .u8 (ordn big)] w fun e w' => (∃ T v, e = .returned (.iface T v)) ∧ Chg (fun k => k = M) w w' := by
  obtain ⟨cur, hF, hmk⟩ := makeBytes 12 (by omega)
  have hmk : ∀ w, (Instr.makeSlice 23 (.int .i64 12) (.int .i64 12)).run Tryd.prog w = .ok (.slice (some ⟨w.heap.size, 0, none⟩) 12 12) (w.alloc (.cells cur.toArray 5)) := hmk
  have hRlt : M < w.heap.size := hR.out.lt
  have hM3 : 3 ≤ M := hR.out.m3
  have g1 := Lib.hid (heap_alloc_new w (.cells cur.toArray 5))
  have c0 : Chg (fun k => k = M) w (w.alloc (.cells cur.toArray 5)) := (Chg.refl _ w).alloc _
  have R1 := Lib.hid (hR.out.later ((Below.refl _ w).alloc (Nat.le_refl _) (.cells cur.toArray 5)))
  have E1 := Lib.hid (hErr.out.chg c0 (fun e => by omega) (fun e => by omega))
  have hgD : Hid (¬ D w.heap.size) := Lib.hid (fun e => absurd (hR.out.d _ e).1 (Nat.lt_irrefl _))
  go_enter Tryd.func32, Tryd.ntmps32
  go_wp2_with fail
  refine (rdr_short rd M w.heap.size D l pos 12 5 cur _ TE TU vE vU E1 R1 hpos (by omega) (by omega) g1 hF hgD (by omega) (by omega)).mono ?_
  rintro e w2 ⟨⟨x, T, v, rfl⟩, hc2⟩
  have C2 : Chg (fun k => k = M) w w2 := c0.trans (hc2.mono fun k _ e => by rcases e with e | e <;> omega)
  clear hc2 g1 c0 R1 hmk
  go_wp2
  go_ret
  exact ⟨⟨_, _, rfl⟩, C2⟩

end Go.Proofs.YtmgmmdhaklokjaaDoor
