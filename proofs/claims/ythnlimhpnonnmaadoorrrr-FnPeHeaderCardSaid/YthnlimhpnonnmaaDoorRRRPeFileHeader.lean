/-
  The contracts of the functions that read the struct FileHeader.
-/
import Derived.Test.YthnlimhpnonnmaaDoorRRROrd
import Derived.Test.YthnlimhpnonnmaaDoorRRRIo
import Derived.Test.YthnlimhpnonnmaaDoorRRRRow
namespace Go.Proofs.YthnlimhpnonnmaaDoorRRR
set_option linter.unusedVariables false
set_option linter.unusedSimpArgs false
open Go Go.RowKit

/-- The fields of FileHeader out of its bytes. -/
def fFileHeader (big : Bool) (s : List UInt8) : List Value := [.int .u16 ((num big (s.take 2) : Nat) : Int), .int .u16 ((num big ((s.drop 2).take 2) : Nat) : Int), .int .u32 ((num big ((s.drop 4).take 4) : Nat) : Int), .int .u32 ((num big ((s.drop 8).take 4) : Nat) : Int), .int .u32 ((num big ((s.drop 12).take 4) : Nat) : Int), .int .u16 ((num big ((s.drop 16).take 2) : Nat) : Int), .int .u16 ((num big ((s.drop 18).take 2) : Nat) : Int)]

/-- A field is stored: what is known afterwards. -/
theorem storedFileHeader {w0 w : World} {x : Value} {V R g : Nat} {cs rs : Array Value} {TV TR : TypeId} {s : List UInt8} {S : Nat → Prop} (q i : Nat) (hV : Hid (w.heap[V]? = some (.cells cs TV (0, 0)))) (hB : Hid (RB w (some ⟨g, 0, none⟩) s)) (hC : Chg S w0 w)
    (hR : Hid (w.heap[R]? = some (.cells rs TR (0, 0)))) (hS : S V) (hg : g ≠ V) (hVR : V ≠ R) :
    ∃ w', w' = (w.drewN q).setCell ⟨V, i, none⟩ x ∧ Hid (w'.heap[V]? = some (.cells (cs.setIfInBounds i x) TV (0, 0))) ∧ Hid (RB w' (some ⟨g, 0, none⟩) s) ∧ Chg S w0 w' ∧ Hid (w'.heap[R]? = some (.cells rs TR (0, 0))) := by
  refine ⟨_, rfl, Lib.hid (heap_setCell_same (w.drewN q) V i _ TV _ hV.out), Lib.hid ?_, (hC.drewN q).setCell _ _ (.inl hS), Lib.hid ((heap_setCell_other (w.drewN q) _ R _ (fun e => hVR e.symm)).trans hR.out)⟩
  have hc : Chg (· = V) w ((w.drewN q).setCell ⟨V, i, none⟩ x) := ((Chg.refl _ w).drewN q).setCell _ _ (.inl rfl)
  exact hB.out.chg hc fun a ha => by cases ha; exact hg

set_option maxRecDepth 100000 in
set_option maxHeartbeats 2000000 in
theorem readFileHeader_all (V R : Nat) (A : Option Addr) (l : List UInt8) (n c pos : Nat) (pv : Value) (big : Bool) (TR TV : TypeId) (w : World)
    (hN : Hid (n = l.length)) (hb : n ≤ 2147483647) (hpos : pos + 20 ≤ n) (hnc : n ≤ c) (hVR : V ≠ R)
    (hR : Hid (w.heap[R]? = some (.cells #[.slice A n c, .int .i64 pos, pv] TR (0, 0)))) (hV : Hid (w.heap[V]? = some (.cells #[.int .u16 0, .int .u16 0, .int .u32 0, .int .u32 0, .int .u32 0, .int .u16 0, .int .u16 0] TV (0, 0)))) (hA : Hid (RB w A l)) (hAR : ∀ a, A = some a → a.block ≠ R ∧ a.block ≠ V ∧ a.block < w.heap.size) :
    Calls Tryd.prog 42 #[.pointer (some ⟨V, 0, none⟩), .iface 97 (.pointer (some ⟨R, 0, none⟩)), .int .u8 (ordn big)] w fun e w' => e = .returned .nilIface ∧
      Hid (w'.heap[R]? = some (.cells #[.slice A n c, .int .i64 (pos + 20 : Nat), .int .i64 (-1)] TR (0, 0))) ∧ Hid (w'.heap[V]? = some (.cells (fFileHeader big ((l.drop pos).take 20)).toArray TV (0, 0))) ∧ Chg (fun k => k = R ∨ k = V) w w' := by
  obtain ⟨cur, hF, hmk⟩ := makeBytes 20 (by omega)
  have hmk : ∀ w, (Instr.makeSlice 22 (.int .i64 20) (.int .i64 20)).run Tryd.prog w = .ok (.slice (some ⟨w.heap.size, 0, none⟩) 20 20) (w.alloc (.cells cur.toArray 5)) := hmk
  have hRlt : R < w.heap.size := (Array.getElem?_eq_some_iff.1 hR.out).1
  have hVlt : V < w.heap.size := (Array.getElem?_eq_some_iff.1 hV.out).1
  have hs := Lib.hid (show ((l.drop pos).take 20).length = 20 by have := hN.out; simp; omega)
  have g1 := Lib.hid (heap_alloc_new w (.cells cur.toArray 5))
  have c0 : Chg (fun k => k = R ∨ k = V) w (w.alloc (.cells cur.toArray 5)) := (Chg.refl _ w).alloc _
  have R1 := Lib.hid ((Below.heap_alloc w (.cells cur.toArray 5) R hRlt).trans hR.out)
  have V1 := Lib.hid ((Below.heap_alloc w (.cells cur.toArray 5) V hVlt).trans hV.out)
  have A1 := Lib.hid (hA.out.later ((Below.refl _ w).alloc (Nat.le_refl _) (.cells cur.toArray 5)))
  obtain ⟨s, hS⟩ : ∃ s, (l.drop pos).take 20 = s := ⟨_, rfl⟩
  rw [hS] at hs ⊢
  have HS := Lib.hid hS
  clear hS
  go_enter Tryd.func42, Tryd.ntmps42
  go_wp2_with fail
  refine (readFull_all R w.heap.size A l n c pos 20 pv TR 5 cur _ hN hb hpos (by omega) (by omega) hnc (by omega) R1 g1 hF A1.out (fun a ha => ⟨(hAR a ha).1, by have := (hAR a ha).2.2; omega⟩)).mono ?_
  rintro e w2 ⟨rfl, R2, g2, hc2, hs2⟩
  rw [HS.out] at g2
  have V2 : Hid (w2.heap[V]? = some (.cells #[.int .u16 0, .int .u16 0, .int .u32 0, .int .u32 0, .int .u32 0, .int .u16 0, .int .u16 0] TV (0, 0))) := Lib.hid (hc2.row V1.out (by omega))
  have B2 : Hid (RB w2 (some ⟨w.heap.size, 0, none⟩) s) := Lib.hid (RB.of_row g2.out)
  have C2 : Chg (fun k => k = R ∨ k = V) w w2 := c0.trans (hc2.mono fun k _ e => by rcases e with e | e <;> omega)
  clear hs2 hc2 g2 g1 c0 V1 R1 A1 hmk
  generalize w.heap.size = g at *
  -- field 0
  have b0 : RB w2 (some ⟨g, 0, none⟩) s := by
    have := B2.out.drop (c := 20) (by rw [hs.out]; omega) 0
    rwa [slA_some g 0 20 0 (by omega), Nat.zero_add, List.drop_zero] at this
  have HB0 := Lib.hid b0
  clear b0
  go_wp2_with fail
  refine (u16_RB big g 0 20 20 s _ HB0.out (by rw [hs.out]; omega) (by omega) (by omega)).mono ?_
  rintro e w' ⟨rfl, q, rfl⟩
  have d0 : w2.cell? ⟨V, 0, none⟩ = some (.int .u16 0) := cell_of_row _ V 0 _ _ _ V2.out
  have fr0 : w2.frozen? ⟨V, 0, none⟩ = false := frozen_of_row _ V 0 _ _ V2.out
  go_wp2_with fail
  obtain ⟨w3, hw3, V3, B3, C3, R3⟩ := storedFileHeader (w0 := w) (x := .int .u16 ((num big (s.take 2) : Nat) : Int)) q 0 V2 B2 C2 R2 (.inr rfl) (by omega) hVR
  simp only [List.setIfInBounds_toArray, List.set_cons_succ, List.set_cons_zero] at V3
  rw [← hw3]
  clear hw3 V2 B2 C2 R2 d0 fr0 HB0
  -- field 1
  have b1 : RB w3 (some ⟨g, 2, none⟩) (s.drop 2) := by
    have := B3.out.drop (c := 20) (by rw [hs.out]; omega) 2
    rwa [slA_some g 0 20 2 (by omega), Nat.zero_add] at this
  have HB1 := Lib.hid b1
  clear b1
  go_wp2_with fail
  refine (u16_RB big g 2 18 18 (s.drop 2) _ HB1.out (by rw [List.length_drop, hs.out]; omega) (by omega) (by omega)).mono ?_
  rintro e w' ⟨rfl, q, rfl⟩
  have d1 : w3.cell? ⟨V, 1, none⟩ = some (.int .u16 0) := cell_of_row _ V 1 _ _ _ V3.out
  have fr1 : w3.frozen? ⟨V, 1, none⟩ = false := frozen_of_row _ V 1 _ _ V3.out
  go_wp2_with fail
  obtain ⟨w4, hw4, V4, B4, C4, R4⟩ := storedFileHeader (w0 := w) (x := .int .u16 ((num big ((s.drop 2).take 2) : Nat) : Int)) q 1 V3 B3 C3 R3 (.inr rfl) (by omega) hVR
  simp only [List.setIfInBounds_toArray, List.set_cons_succ, List.set_cons_zero] at V4
  rw [← hw4]
  clear hw4 V3 B3 C3 R3 d1 fr1 HB1
  -- field 2
  have b2 : RB w4 (some ⟨g, 4, none⟩) (s.drop 4) := by
    have := B4.out.drop (c := 20) (by rw [hs.out]; omega) 4
    rwa [slA_some g 0 20 4 (by omega), Nat.zero_add] at this
  have HB2 := Lib.hid b2
  clear b2
  go_wp2_with fail
  refine (u32_RB big g 4 16 16 (s.drop 4) _ HB2.out (by rw [List.length_drop, hs.out]; omega) (by omega) (by omega)).mono ?_
  rintro e w' ⟨rfl, q, rfl⟩
  have d2 : w4.cell? ⟨V, 2, none⟩ = some (.int .u32 0) := cell_of_row _ V 2 _ _ _ V4.out
  have fr2 : w4.frozen? ⟨V, 2, none⟩ = false := frozen_of_row _ V 2 _ _ V4.out
  go_wp2_with fail
  obtain ⟨w5, hw5, V5, B5, C5, R5⟩ := storedFileHeader (w0 := w) (x := .int .u32 ((num big ((s.drop 4).take 4) : Nat) : Int)) q 2 V4 B4 C4 R4 (.inr rfl) (by omega) hVR
  simp only [List.setIfInBounds_toArray, List.set_cons_succ, List.set_cons_zero] at V5
  rw [← hw5]
  clear hw5 V4 B4 C4 R4 d2 fr2 HB2
  -- field 3
  have b3 : RB w5 (some ⟨g, 8, none⟩) (s.drop 8) := by
    have := B5.out.drop (c := 20) (by rw [hs.out]; omega) 8
    rwa [slA_some g 0 20 8 (by omega), Nat.zero_add] at this
  have HB3 := Lib.hid b3
  clear b3
  go_wp2_with fail
  refine (u32_RB big g 8 12 12 (s.drop 8) _ HB3.out (by rw [List.length_drop, hs.out]; omega) (by omega) (by omega)).mono ?_
  rintro e w' ⟨rfl, q, rfl⟩
  have d3 : w5.cell? ⟨V, 3, none⟩ = some (.int .u32 0) := cell_of_row _ V 3 _ _ _ V5.out
  have fr3 : w5.frozen? ⟨V, 3, none⟩ = false := frozen_of_row _ V 3 _ _ V5.out
  go_wp2_with fail
  obtain ⟨w6, hw6, V6, B6, C6, R6⟩ := storedFileHeader (w0 := w) (x := .int .u32 ((num big ((s.drop 8).take 4) : Nat) : Int)) q 3 V5 B5 C5 R5 (.inr rfl) (by omega) hVR
  simp only [List.setIfInBounds_toArray, List.set_cons_succ, List.set_cons_zero] at V6
  rw [← hw6]
  clear hw6 V5 B5 C5 R5 d3 fr3 HB3
  -- field 4
  have b4 : RB w6 (some ⟨g, 12, none⟩) (s.drop 12) := by
    have := B6.out.drop (c := 20) (by rw [hs.out]; omega) 12
    rwa [slA_some g 0 20 12 (by omega), Nat.zero_add] at this
  have HB4 := Lib.hid b4
  clear b4
  go_wp2_with fail
  refine (u32_RB big g 12 8 8 (s.drop 12) _ HB4.out (by rw [List.length_drop, hs.out]; omega) (by omega) (by omega)).mono ?_
  rintro e w' ⟨rfl, q, rfl⟩
  have d4 : w6.cell? ⟨V, 4, none⟩ = some (.int .u32 0) := cell_of_row _ V 4 _ _ _ V6.out
  have fr4 : w6.frozen? ⟨V, 4, none⟩ = false := frozen_of_row _ V 4 _ _ V6.out
  go_wp2_with fail
  obtain ⟨w7, hw7, V7, B7, C7, R7⟩ := storedFileHeader (w0 := w) (x := .int .u32 ((num big ((s.drop 12).take 4) : Nat) : Int)) q 4 V6 B6 C6 R6 (.inr rfl) (by omega) hVR
  simp only [List.setIfInBounds_toArray, List.set_cons_succ, List.set_cons_zero] at V7
  rw [← hw7]
  clear hw7 V6 B6 C6 R6 d4 fr4 HB4
  -- field 5
  have b5 : RB w7 (some ⟨g, 16, none⟩) (s.drop 16) := by
    have := B7.out.drop (c := 20) (by rw [hs.out]; omega) 16
    rwa [slA_some g 0 20 16 (by omega), Nat.zero_add] at this
  have HB5 := Lib.hid b5
  clear b5
  go_wp2_with fail
  refine (u16_RB big g 16 4 4 (s.drop 16) _ HB5.out (by rw [List.length_drop, hs.out]; omega) (by omega) (by omega)).mono ?_
  rintro e w' ⟨rfl, q, rfl⟩
  have d5 : w7.cell? ⟨V, 5, none⟩ = some (.int .u16 0) := cell_of_row _ V 5 _ _ _ V7.out
  have fr5 : w7.frozen? ⟨V, 5, none⟩ = false := frozen_of_row _ V 5 _ _ V7.out
  go_wp2_with fail
  obtain ⟨w8, hw8, V8, B8, C8, R8⟩ := storedFileHeader (w0 := w) (x := .int .u16 ((num big ((s.drop 16).take 2) : Nat) : Int)) q 5 V7 B7 C7 R7 (.inr rfl) (by omega) hVR
  simp only [List.setIfInBounds_toArray, List.set_cons_succ, List.set_cons_zero] at V8
  rw [← hw8]
  clear hw8 V7 B7 C7 R7 d5 fr5 HB5
  -- field 6
  have b6 : RB w8 (some ⟨g, 18, none⟩) (s.drop 18) := by
    have := B8.out.drop (c := 20) (by rw [hs.out]; omega) 18
    rwa [slA_some g 0 20 18 (by omega), Nat.zero_add] at this
  have HB6 := Lib.hid b6
  clear b6
  go_wp2_with fail
  refine (u16_RB big g 18 2 2 (s.drop 18) _ HB6.out (by rw [List.length_drop, hs.out]; omega) (by omega) (by omega)).mono ?_
  rintro e w' ⟨rfl, q, rfl⟩
  have d6 : w8.cell? ⟨V, 6, none⟩ = some (.int .u16 0) := cell_of_row _ V 6 _ _ _ V8.out
  have fr6 : w8.frozen? ⟨V, 6, none⟩ = false := frozen_of_row _ V 6 _ _ V8.out
  go_wp2
  obtain ⟨w9, hw9, V9, B9, C9, R9⟩ := storedFileHeader (w0 := w) (x := .int .u16 ((num big ((s.drop 18).take 2) : Nat) : Int)) q 6 V8 B8 C8 R8 (.inr rfl) (by omega) hVR
  simp only [List.setIfInBounds_toArray, List.set_cons_succ, List.set_cons_zero] at V9
  rw [← hw9]
  clear hw9 V8 B8 C8 R8 d6 fr6 HB6
  go_ret
  exact ⟨rfl, R9, V9, C9⟩


set_option maxRecDepth 100000 in
set_option maxHeartbeats 1000000 in
theorem readFileHeader_short (V R : Nat) (A : Option Addr) (l : List UInt8) (n c pos : Nat) (pv : Value) (big : Bool) (TR : TypeId) (w : World) (TE TU : TypeId) (vE vU : Value) (hErr : Hid (ErrsAt w TE TU vE vU))
    (hN : Hid (n = l.length)) (hb : n ≤ 2147483647) (hpos : n < pos + 20) (hnc : n ≤ c) (h3 : 3 ≤ R)
    (hR : Hid (w.heap[R]? = some (.cells #[.slice A n c, .int .i64 pos, pv] TR (0, 0)))) (hA : Hid (RB w A l)) (hAR : ∀ a, A = some a → a.block ≠ R ∧ a.block < w.heap.size) :
    Calls Tryd.prog 42 #[.pointer (some ⟨V, 0, none⟩), .iface 97 (.pointer (some ⟨R, 0, none⟩)), .int .u8 (ordn big)] w fun e w' => (∃ T v, e = .returned (.iface T v)) ∧ Chg (fun k => k = R) w w' := by
  obtain ⟨cur, hF, hmk⟩ := makeBytes 20 (by omega)
  have hmk : ∀ w, (Instr.makeSlice 22 (.int .i64 20) (.int .i64 20)).run Tryd.prog w = .ok (.slice (some ⟨w.heap.size, 0, none⟩) 20 20) (w.alloc (.cells cur.toArray 5)) := hmk
  have hRlt : R < w.heap.size := (Array.getElem?_eq_some_iff.1 hR.out).1
  have g1 := Lib.hid (heap_alloc_new w (.cells cur.toArray 5))
  have c0 : Chg (fun k => k = R) w (w.alloc (.cells cur.toArray 5)) := (Chg.refl _ w).alloc _
  have R1 := Lib.hid ((Below.heap_alloc w (.cells cur.toArray 5) R hRlt).trans hR.out)
  have A1 := Lib.hid (hA.out.later ((Below.refl _ w).alloc (Nat.le_refl _) (.cells cur.toArray 5)))
  have E1 := Lib.hid (hErr.out.chg c0 (fun e => by omega) (fun e => by omega))
  go_enter Tryd.func42, Tryd.ntmps42
  go_wp2_with fail
  refine (readFull_short R w.heap.size A l n c pos 20 pv TR 5 cur _ TE TU vE vU E1 hN hb hpos (by omega) (by omega) hnc ⟨h3, by omega⟩ (by omega) R1 g1 hF A1.out (fun a ha => ⟨(hAR a ha).1, by have := (hAR a ha).2; omega⟩)).mono ?_
  rintro e w2 ⟨⟨x, T, v, rfl⟩, hc2⟩
  have C2 : Chg (fun k => k = R) w w2 := c0.trans (hc2.mono fun k _ e => by rcases e with e | e <;> omega)
  clear hc2 g1 c0 R1 A1 hmk
  go_wp2
  go_ret
  exact ⟨⟨_, _, rfl⟩, C2⟩

theorem oneFileHeader (big : Bool) (s : List UInt8) : ∀ v ∈ (fFileHeader big s).toArray.toList, v.oneCell' = true := List.all_eq_true.1 (show (fFileHeader big s).all (·.oneCell') = true from rfl)

set_option maxRecDepth 100000 in
set_option maxHeartbeats 1000000 in
theorem zzFileHeader_all (A : Option Addr) (l : List UInt8) (n c : Nat) (w : World)
    (hN : Hid (n = l.length)) (hb : n ≤ 2147483647) (hZ : 20 ≤ n) (hnc : n ≤ c) (hA : Hid (RB w A l)) (hAl : ∀ a, A = some a → a.block < w.heap.size) :
    Calls Tryd.prog 28 #[.slice A n c] w fun e w' => e = .returned (.tuple #[.agg (fFileHeader false (l.take 20)).toArray, .nilIface]) ∧ Below w.heap.size w w' := by
  have hV := Lib.hid (heap_alloc2_old w (.cells #[.int .u16 0, .int .u16 0, .int .u32 0, .int .u32 0, .int .u32 0, .int .u16 0, .int .u16 0] 58) (.cells #[.slice A n c, .int .i64 0, .int .i64 (-1)] 116))
  have hR := Lib.hid (heap_alloc2_new w (.cells #[.int .u16 0, .int .u16 0, .int .u32 0, .int .u32 0, .int .u32 0, .int .u16 0, .int .u16 0] 58) (.cells #[.slice A n c, .int .i64 0, .int .i64 (-1)] 116))
  have hb0 : Below w.heap.size w ((w.alloc (.cells #[.int .u16 0, .int .u16 0, .int .u32 0, .int .u32 0, .int .u32 0, .int .u16 0, .int .u16 0] 58)).alloc (.cells #[.slice A n c, .int .i64 0, .int .i64 (-1)] 116)) := ((Below.refl _ _).alloc (Nat.le_refl _) _).alloc (by simp) _
  have hA2 := Lib.hid (hA.out.later hb0)
  have hsz : ((w.alloc (.cells #[.int .u16 0, .int .u16 0, .int .u32 0, .int .u32 0, .int .u32 0, .int .u16 0, .int .u16 0] 58)).alloc (.cells #[.slice A n c, .int .i64 0, .int .i64 (-1)] 116)).heap.size = w.heap.size + 2 := by simp
  have HS := Lib.hid hsz
  clear hsz
  go_enter Tryd.func28, Tryd.ntmps28
  go_wp2_with fail
  refine (newReader _ A n c rfl _).mono ?_
  rintro e w' ⟨rfl, rfl⟩
  go_wp2_with fail
  refine (readFileHeader_all w.heap.size (w.heap.size + 1) A l n c 0 (.int .i64 (-1)) false 116 58 _ hN hb (by omega) hnc (by omega) hR hV hA2 (fun a ha => by have := hAl a ha; rw [HS.out]; omega)).mono ?_
  rintro e w3 ⟨rfl, R3, V3, C3⟩
  rw [List.drop_zero] at V3
  have hb3 : Below w.heap.size w w3 := hb0.trans (C3.below (by rw [HS.out]; omega) (fun k hk e => by rcases e with e | e <;> omega))
  clear R3 C3 hb0
  go_wp2_with (first | (refine wpList_load_row rfl 58 _ rfl w.heap.size rfl 58 (fFileHeader false (l.take 20)).toArray (0, 0) _ V3.out Tryd.underlying58 rfl (by kernel_rfl) ?_) | (refine wpList_store_self rfl 58 _ _ rfl w.heap.size 58 (fFileHeader false (l.take 20)).toArray rfl rfl V3.out (by kernel_rfl) (oneFileHeader false _) ?_))
  exact bodyPost_ret (results_cell_tmp rfl _ _ w.heap.size 58 (fFileHeader false (l.take 20)).toArray (0, 0) _ rfl V3.out Tryd.underlying58 rfl (by kernel_rfl)) rfl ⟨rfl, hb3⟩

set_option maxRecDepth 100000 in
set_option maxHeartbeats 1000000 in
theorem zzFileHeader_short (A : Option Addr) (l : List UInt8) (n c : Nat) (w : World) (TE TU : TypeId) (vE vU : Value) (hErr : Hid (ErrsAt w TE TU vE vU)) (h3 : 3 ≤ w.heap.size)
    (hN : Hid (n = l.length)) (hb : n ≤ 2147483647) (hZ : n < 20) (hnc : n ≤ c) (hA : Hid (RB w A l)) (hAl : ∀ a, A = some a → a.block < w.heap.size) :
    Calls Tryd.prog 28 #[.slice A n c] w fun e w' => (∃ T v, e = .returned (.tuple #[.agg #[.int .u16 0, .int .u16 0, .int .u32 0, .int .u32 0, .int .u32 0, .int .u16 0, .int .u16 0], .iface T v])) ∧ Below w.heap.size w w' := by
  have hV := Lib.hid (heap_alloc2_old w (.cells #[.int .u16 0, .int .u16 0, .int .u32 0, .int .u32 0, .int .u32 0, .int .u16 0, .int .u16 0] 58) (.cells #[.slice A n c, .int .i64 0, .int .i64 (-1)] 116))
  have hR := Lib.hid (heap_alloc2_new w (.cells #[.int .u16 0, .int .u16 0, .int .u32 0, .int .u32 0, .int .u32 0, .int .u16 0, .int .u16 0] 58) (.cells #[.slice A n c, .int .i64 0, .int .i64 (-1)] 116))
  have hb0 : Below w.heap.size w ((w.alloc (.cells #[.int .u16 0, .int .u16 0, .int .u32 0, .int .u32 0, .int .u32 0, .int .u16 0, .int .u16 0] 58)).alloc (.cells #[.slice A n c, .int .i64 0, .int .i64 (-1)] 116)) := ((Below.refl _ _).alloc (Nat.le_refl _) _).alloc (by simp) _
  have hA2 := Lib.hid (hA.out.later hb0)
  have hE2 := Lib.hid (hErr.out.chg (Chg.of_below (S := fun k => w.heap.size ≤ k) hb0 (fun k _ h => h)) (by omega) (by omega))
  have hsz : ((w.alloc (.cells #[.int .u16 0, .int .u16 0, .int .u32 0, .int .u32 0, .int .u32 0, .int .u16 0, .int .u16 0] 58)).alloc (.cells #[.slice A n c, .int .i64 0, .int .i64 (-1)] 116)).heap.size = w.heap.size + 2 := by simp
  have HS := Lib.hid hsz
  clear hsz
  go_enter Tryd.func28, Tryd.ntmps28
  go_wp2_with fail
  refine (newReader _ A n c rfl _).mono ?_
  rintro e w' ⟨rfl, rfl⟩
  go_wp2_with fail
  refine (readFileHeader_short w.heap.size (w.heap.size + 1) A l n c 0 (.int .i64 (-1)) false 116 _ TE TU vE vU hE2 hN hb (by omega) hnc (by omega) hR hA2 (fun a ha => by have := hAl a ha; rw [HS.out]; omega)).mono ?_
  rintro e w3 ⟨⟨TX, vX, rfl⟩, C3⟩
  have V3 : Hid (w3.heap[w.heap.size]? = some (.cells #[.int .u16 0, .int .u16 0, .int .u32 0, .int .u32 0, .int .u32 0, .int .u16 0, .int .u16 0] 58 (0, 0))) := Lib.hid (C3.row hV.out (by omega))
  have hb3 : Below w.heap.size w w3 := hb0.trans (C3.below (by rw [HS.out]; omega) (fun k hk e => by omega))
  clear C3 hb0
  go_wp2_with (first | (refine wpList_load_row rfl 58 _ rfl w.heap.size rfl 58 #[.int .u16 0, .int .u16 0, .int .u32 0, .int .u32 0, .int .u32 0, .int .u16 0, .int .u16 0] (0, 0) _ V3.out Tryd.underlying58 rfl (by kernel_rfl) ?_) | (refine wpList_store_self rfl 58 _ _ rfl w.heap.size 58 #[.int .u16 0, .int .u16 0, .int .u32 0, .int .u32 0, .int .u32 0, .int .u16 0, .int .u16 0] rfl rfl V3.out (by kernel_rfl) (List.all_eq_true.1 rfl) ?_))
  exact bodyPost_ret (results_cell_tmp rfl _ _ w.heap.size 58 #[.int .u16 0, .int .u16 0, .int .u32 0, .int .u32 0, .int .u32 0, .int .u16 0, .int .u16 0] (0, 0) _ rfl V3.out Tryd.underlying58 rfl (by kernel_rfl)) rfl ⟨⟨_, _, rfl⟩, hb3⟩

end Go.Proofs.YthnlimhpnonnmaaDoorRRR
