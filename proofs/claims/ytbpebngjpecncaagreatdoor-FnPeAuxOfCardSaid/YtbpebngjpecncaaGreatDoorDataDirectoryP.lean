/-
  The contracts of the functions that read the struct DataDirectory (read).
-/
import Derived.Test.YtbpebngjpecncaaGreatDoorOrd
import Derived.Test.YtbpebngjpecncaaGreatDoorSecRd
import Derived.Test.YtbpebngjpecncaaGreatDoorRow
import Derived.Test.YtbpebngjpecncaaGreatDoorName
import Derived.Test.YtbpebngjpecncaaGreatDoorNum1
namespace Go.Proofs.YtbpebngjpecncaaGreatDoor
set_option linter.unusedVariables false
set_option linter.unusedSimpArgs false
set_option maxRecDepth 100000
open Go Go.RowKit
attribute [local go_sem ↓] Go.wp_at_zero Go.wp_at_succ

/-- The fields of DataDirectory out of its bytes. -/
def fDataDirectory (big : Bool) (s : List UInt8) : List Value := [.int .u32 ((num big (s.take 4) : Nat) : Int), .int .u32 ((num big ((s.drop 4).take 4) : Nat) : Int)]
theorem oneDataDirectory (big : Bool) (s : List UInt8) : ∀ v ∈ (fDataDirectory big s).toArray.toList, v.oneCell' = true := by
  refine List.all_eq_true.1 (show (fDataDirectory big s).all (·.oneCell') = true from ?_)
  rfl
theorem sizeDataDirectory (big : Bool) (s : List UInt8) (h : s.length = 8) : (fDataDirectory big s).toArray.size = 2 := by
  first | (simp [fDataDirectory]; done) | (simp [fDataDirectory]; omega)

set_option maxRecDepth 100000 in
set_option maxHeartbeats 2000000 in
theorem readDataDirectory_all (V M : Nat) (pre post : List Value) (o : Nat) (rd : Value) (D : Nat → Prop) (l : List UInt8) (pos : Nat) (big : Bool) (TV : TypeId) (w : World)
    (hO : Hid (pre.length = o)) (hR : Hid (Rdr w rd M D l pos)) (hpos : Hid (pos + 8 ≤ l.length)) (hVM : V ≠ M) (hVD : Hid (¬ D V))
    (hV : Hid (w.heap[V]? = some (.cells (pre ++ (([.int .u32 0, .int .u32 0] : List Value) ++ post)).toArray TV (0, 0)))) :
    Calls Tryz.prog 65 #[.pointer (some ⟨V, o, none⟩), rd, .int .u8 (ordn big)] w fun e w' => e = .returned .nilIface ∧
      Hid (Rdr w' rd M D l (pos + 8)) ∧ Hid (w'.heap[V]? = some (.cells (pre ++ (fDataDirectory big ((l.drop pos).take 8) ++ post)).toArray TV (0, 0))) ∧ Chg (fun k => k = M ∨ k = V) w w' := by
  obtain ⟨cur, hF, hmk⟩ := makeBytes 8 (by omega)
  have hmk : ∀ w, (Instr.makeSlice 34 (.int .i64 8) (.int .i64 8)).run Tryz.prog w = .ok (.slice (some ⟨w.heap.size, 0, none⟩) 8 8) (w.alloc (.cells cur.toArray 5)) := hmk
  have hRlt : M < w.heap.size := hR.out.lt
  have hVlt : V < w.heap.size := (Array.getElem?_eq_some_iff.1 hV.out).1
  have hs := Lib.hid (show ((l.drop pos).take 8).length = 8 by have := hpos.out; simp; omega)
  have g1 := Lib.hid (heap_alloc_new w (.cells cur.toArray 5))
  have c0 : Chg (fun k => k = M ∨ k = V) w (w.alloc (.cells cur.toArray 5)) := (Chg.refl _ w).alloc _
  have V1 := Lib.hid ((Below.heap_alloc w (.cells cur.toArray 5) V hVlt).trans hV.out)
  have R1 := Lib.hid (hR.out.later ((Below.refl _ w).alloc (Nat.le_refl _) (.cells cur.toArray 5)))
  have hgD : Hid (¬ D w.heap.size) := Lib.hid (fun e => absurd (hR.out.d _ e).1 (Nat.lt_irrefl _))
  obtain ⟨s, hS⟩ : ∃ s, (l.drop pos).take 8 = s := ⟨_, rfl⟩
  rw [hS] at hs ⊢
  have HS := Lib.hid hS
  clear hS
  go_enter Tryz.func65, Tryz.ntmps65
  go_wp2_with fail
  refine (rdr_full rd M w.heap.size D l pos 8 5 cur _ R1 hpos (by omega) g1 hF hgD (by omega)).mono ?_
  rintro e w2 ⟨rfl, R2, g2, hc2, hs2⟩
  rw [HS.out] at g2
  have V2 : Hid (w2.heap[V]? = some (.cells (pre ++ (([.int .u32 0, .int .u32 0] : List Value) ++ post)).toArray TV (0, 0))) := Lib.hid (hc2.row V1.out (by omega))
  have B2 : Hid (RB w2 (some ⟨w.heap.size, 0, none⟩) s) := Lib.hid (RB.of_row g2.out)
  have C2 : Chg (fun k => k = M ∨ k = V) w w2 := c0.trans (hc2.mono fun k _ e => by rcases e with e | e <;> omega)
  clear hs2 hc2 g2 g1 c0 V1 R1 hmk hgD
  generalize w.heap.size = g at *
  -- field 0
  have b0 : RB w2 (some ⟨g, 0, none⟩) s := by
    have := B2.out.drop (c := 8) (by rw [hs.out]; omega) 0
    rwa [slA_some g 0 8 0 (by omega), Nat.zero_add, List.drop_zero] at this
  have HB0 := Lib.hid b0
  clear b0
  go_wp2_with fail
  refine (u32_RB big g 0 8 8 s _ HB0.out (by rw [hs.out]; omega) (by omega) (by omega)).mono ?_
  rintro e w' ⟨rfl, q, rfl⟩
  have d0 : w2.cell? ⟨V, o, none⟩ = some (.int .u32 0) := cell_mid hO V2 0 rfl
  have fr0 : w2.frozen? ⟨V, o, none⟩ = false := frozen_of_row _ V o _ _ V2.out
  go_wp2_with fail
  obtain ⟨w3, hw3, V3, B3, C3, R3⟩ := storedV (w0 := w) (x := .int .u32 ((num big (s.take 4) : Nat) : Int)) q o V2 B2 C2 R2 (.inr rfl) (by omega) hVM hVD
  replace V3 := set_mid (i := 0) hO (by simp) V3
  simp only [List.setIfInBounds_toArray, List.set_cons_succ, List.set_cons_zero] at V3
  rw [← hw3]
  clear hw3 V2 B2 C2 R2 d0 fr0 HB0
  -- field 1
  have b1 : RB w3 (some ⟨g, 4, none⟩) (s.drop 4) := by
    have := B3.out.drop (c := 8) (by rw [hs.out]; omega) 4
    rwa [slA_some g 0 8 4 (by omega), Nat.zero_add] at this
  have HB1 := Lib.hid b1
  clear b1
  go_wp2_with fail
  refine (u32_RB big g 4 4 4 (s.drop 4) _ HB1.out (by rw [List.length_drop, hs.out]; omega) (by omega) (by omega)).mono ?_
  rintro e w' ⟨rfl, q, rfl⟩
  have d1 : w3.cell? ⟨V, o + 1, none⟩ = some (.int .u32 0) := cell_mid hO V3 1 rfl
  have fr1 : w3.frozen? ⟨V, o + 1, none⟩ = false := frozen_of_row _ V (o + 1) _ _ V3.out
  go_wp2
  obtain ⟨w4, hw4, V4, B4, C4, R4⟩ := storedV (w0 := w) (x := .int .u32 ((num big ((s.drop 4).take 4) : Nat) : Int)) q (o + 1) V3 B3 C3 R3 (.inr rfl) (by omega) hVM hVD
  replace V4 := set_mid (i := 1) hO (by simp) V4
  simp only [List.setIfInBounds_toArray, List.set_cons_succ, List.set_cons_zero] at V4
  rw [← hw4]
  clear hw4 V3 B3 C3 R3 d1 fr1 HB1
  go_ret
  exact ⟨rfl, R4, V4, C4⟩

end Go.Proofs.YtbpebngjpecncaaGreatDoor
