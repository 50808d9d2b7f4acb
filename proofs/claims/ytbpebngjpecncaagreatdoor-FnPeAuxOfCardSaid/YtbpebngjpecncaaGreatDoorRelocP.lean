/-
  The contracts of the functions that read the struct Reloc (read).
-/
import Derived.Test.YtbpebngjpecncaaGreatDoorOrd
import Derived.Test.YtbpebngjpecncaaGreatDoorSecRd
import Derived.Test.YtbpebngjpecncaaGreatDoorRow
import Derived.Test.YtbpebngjpecncaaGreatDoorName
import Derived.Test.YtbpebngjpecncaaGreatDoorNum1
namespace Go.Proofs.YtbpebngjpecncaaGreatDoor
set_option linter.unusedVariables false
set_option linter.unusedSimpArgs false
set_option maxRecDepth 100000
open Go Go.RowKit
attribute [local go_sem ↓] Go.wp_at_zero Go.wp_at_succ

/-- The fields of Reloc out of its bytes. -/
def fReloc (big : Bool) (s : List UInt8) : List Value := [.int .u32 ((num big (s.take 4) : Nat) : Int), .int .u32 ((num big ((s.drop 4).take 4) : Nat) : Int), .int .u16 ((num big ((s.drop 8).take 2) : Nat) : Int)]
theorem oneReloc (big : Bool) (s : List UInt8) : ∀ v ∈ (fReloc big s).toArray.toList, v.oneCell' = true := by
  refine List.all_eq_true.1 (show (fReloc big s).all (·.oneCell') = true from ?_)
  rfl
theorem sizeReloc (big : Bool) (s : List UInt8) (h : s.length = 10) : (fReloc big s).toArray.size = 3 := by
  first | (simp [fReloc]; done) | (simp [fReloc]; omega)

set_option maxRecDepth 100000 in
set_option maxHeartbeats 2000000 in
theorem readReloc_all (V M : Nat) (pre post : List Value) (o : Nat) (rd : Value) (D : Nat → Prop) (l : List UInt8) (pos : Nat) (big : Bool) (TV : TypeId) (w : World)
    (hO : Hid (pre.length = o)) (hR : Hid (Rdr w rd M D l pos)) (hpos : Hid (pos + 10 ≤ l.length)) (hVM : V ≠ M) (hVD : Hid (¬ D V))
    (hV : Hid (w.heap[V]? = some (.cells (pre ++ (([.int .u32 0, .int .u32 0, .int .u16 0] : List Value) ++ post)).toArray TV (0, 0)))) :
    Calls Tryz.prog 64 #[.pointer (some ⟨V, o, none⟩), rd, .int .u8 (ordn big)] w fun e w' => e = .returned .nilIface ∧
      Hid (Rdr w' rd M D l (pos + 10)) ∧ Hid (w'.heap[V]? = some (.cells (pre ++ (fReloc big ((l.drop pos).take 10) ++ post)).toArray TV (0, 0))) ∧ Chg (fun k => k = M ∨ k = V) w w' := by
  obtain ⟨cur, hF, hmk⟩ := makeBytes 10 (by omega)
  have hmk : ∀ w, (Instr.makeSlice 34 (.int .i64 10) (.int .i64 10)).run Tryz.prog w = .ok (.slice (some ⟨w.heap.size, 0, none⟩) 10 10) (w.alloc (.cells cur.toArray 5)) := hmk
  have hRlt : M < w.heap.size := hR.out.lt
  have hVlt : V < w.heap.size := (Array.getElem?_eq_some_iff.1 hV.out).1
  have hs := Lib.hid (show ((l.drop pos).take 10).length = 10 by have := hpos.out; simp; omega)
  have g1 := Lib.hid (heap_alloc_new w (.cells cur.toArray 5))
  have c0 : Chg (fun k => k = M ∨ k = V) w (w.alloc (.cells cur.toArray 5)) := (Chg.refl _ w).alloc _
  have V1 := Lib.hid ((Below.heap_alloc w (.cells cur.toArray 5) V hVlt).trans hV.out)
  have R1 := Lib.hid (hR.out.later ((Below.refl _ w).alloc (Nat.le_refl _) (.cells cur.toArray 5)))
  have hgD : Hid (¬ D w.heap.size) := Lib.hid (fun e => absurd (hR.out.d _ e).1 (Nat.lt_irrefl _))
  obtain ⟨s, hS⟩ : ∃ s, (l.drop pos).take 10 = s := ⟨_, rfl⟩
  rw [hS] at hs ⊢
  have HS := Lib.hid hS
  clear hS
  go_enter Tryz.func64, Tryz.ntmps64
  go_wp2_with fail
  refine (rdr_full rd M w.heap.size D l pos 10 5 cur _ R1 hpos (by omega) g1 hF hgD (by omega)).mono ?_
  rintro e w2 ⟨rfl, R2, g2, hc2, hs2⟩
  rw [HS.out] at g2
  have V2 : Hid (w2.heap[V]? = some (.cells (pre ++ (([.int .u32 0, .int .u32 0, .int .u16 0] : List Value) ++ post)).toArray TV (0, 0))) := Lib.hid (hc2.row V1.out (by omega))
  have B2 : Hid (RB w2 (some ⟨w.heap.size, 0, none⟩) s) := Lib.hid (RB.of_row g2.out)
  have C2 : Chg (fun k => k = M ∨ k = V) w w2 := c0.trans (hc2.mono fun k _ e => by rcases e with e | e <;> omega)
  clear hs2 hc2 g2 g1 c0 V1 R1 hmk hgD
  generalize w.heap.size = g at *
  -- field 0
  have b0 : RB w2 (some ⟨g, 0, none⟩) s := by
    have := B2.out.drop (c := 10) (by rw [hs.out]; omega) 0
    rwa [slA_some g 0 10 0 (by omega), Nat.zero_add, List.drop_zero] at this
  have HB0 := Lib.hid b0
  clear b0
  go_wp2_with fail
  refine (u32_RB big g 0 10 10 s _ HB0.out (by rw [hs.out]; omega) (by omega) (by omega)).mono ?_
  rintro e w' ⟨rfl, q, rfl⟩
  have d0 : w2.cell? ⟨V, o, none⟩ = some (.int .u32 0) := cell_mid hO V2 0 rfl
  have fr0 : w2.frozen? ⟨V, o, none⟩ = false := frozen_of_row _ V o _ _ V2.out
  go_wp2_with fail
  obtain ⟨w3, hw3, V3, B3, C3, R3⟩ := storedV (w0 := w) (x := .int .u32 ((num big (s.take 4) : Nat) : Int)) q o V2 B2 C2 R2 (.inr rfl) (by omega) hVM hVD
  replace V3 := set_mid (i := 0) hO (by simp) V3
  simp only [List.setIfInBounds_toArray, List.set_cons_succ, List.set_cons_zero] at V3
  rw [← hw3]
  clear hw3 V2 B2 C2 R2 d0 fr0 HB0
  -- field 1
  have b1 : RB w3 (some ⟨g, 4, none⟩) (s.drop 4) := by
    have := B3.out.drop (c := 10) (by rw [hs.out]; omega) 4
    rwa [slA_some g 0 10 4 (by omega), Nat.zero_add] at this
  have HB1 := Lib.hid b1
  clear b1
  go_wp2_with fail
  refine (u32_RB big g 4 6 6 (s.drop 4) _ HB1.out (by rw [List.length_drop, hs.out]; omega) (by omega) (by omega)).mono ?_
  rintro e w' ⟨rfl, q, rfl⟩
  have d1 : w3.cell? ⟨V, o + 1, none⟩ = some (.int .u32 0) := cell_mid hO V3 1 rfl
  have fr1 : w3.frozen? ⟨V, o + 1, none⟩ = false := frozen_of_row _ V (o + 1) _ _ V3.out
  go_wp2_with fail
  obtain ⟨w4, hw4, V4, B4, C4, R4⟩ := storedV (w0 := w) (x := .int .u32 ((num big ((s.drop 4).take 4) : Nat) : Int)) q (o + 1) V3 B3 C3 R3 (.inr rfl) (by omega) hVM hVD
  replace V4 := set_mid (i := 1) hO (by simp) V4
  simp only [List.setIfInBounds_toArray, List.set_cons_succ, List.set_cons_zero] at V4
  rw [← hw4]
  clear hw4 V3 B3 C3 R3 d1 fr1 HB1
  -- field 2
  have b2 : RB w4 (some ⟨g, 8, none⟩) (s.drop 8) := by
    have := B4.out.drop (c := 10) (by rw [hs.out]; omega) 8
    rwa [slA_some g 0 10 8 (by omega), Nat.zero_add] at this
  have HB2 := Lib.hid b2
  clear b2
  go_wp2_with fail
  refine (u16_RB big g 8 2 2 (s.drop 8) _ HB2.out (by rw [List.length_drop, hs.out]; omega) (by omega) (by omega)).mono ?_
  rintro e w' ⟨rfl, q, rfl⟩
  have d2 : w4.cell? ⟨V, o + 2, none⟩ = some (.int .u16 0) := cell_mid hO V4 2 rfl
  have fr2 : w4.frozen? ⟨V, o + 2, none⟩ = false := frozen_of_row _ V (o + 2) _ _ V4.out
  go_wp2
  obtain ⟨w5, hw5, V5, B5, C5, R5⟩ := storedV (w0 := w) (x := .int .u16 ((num big ((s.drop 8).take 2) : Nat) : Int)) q (o + 2) V4 B4 C4 R4 (.inr rfl) (by omega) hVM hVD
  replace V5 := set_mid (i := 2) hO (by simp) V5
  simp only [List.setIfInBounds_toArray, List.set_cons_succ, List.set_cons_zero] at V5
  rw [← hw5]
  clear hw5 V4 B4 C4 R4 d2 fr2 HB2
  go_ret
  exact ⟨rfl, R5, V5, C5⟩

end Go.Proofs.YtbpebngjpecncaaGreatDoor
