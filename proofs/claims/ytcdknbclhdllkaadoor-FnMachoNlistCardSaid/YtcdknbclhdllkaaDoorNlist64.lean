/-
  The contracts of the functions that read the struct Nlist64.
-/
import Derived.Test.YtcdknbclhdllkaaDoorOrd
import Derived.Test.YtcdknbclhdllkaaDoorIo
import Derived.Test.YtcdknbclhdllkaaDoorRow
import Derived.Test.YtcdknbclhdllkaaDoorNum1
namespace Go.Proofs.YtcdknbclhdllkaaDoor
set_option linter.unusedVariables false
set_option linter.unusedSimpArgs false
open Go Go.RowKit

/-- The fields of Nlist64 out of its bytes. -/
def fNlist64 (big : Bool) (s : List UInt8) : List Value := [.int .u32 ((num big (s.take 4) : Nat) : Int), .int .u8 ((num big ((s.drop 4).take 1) : Nat) : Int), .int .u8 ((num big ((s.drop 5).take 1) : Nat) : Int), .int .u16 ((num big ((s.drop 6).take 2) : Nat) : Int), .int .u64 ((num big ((s.drop 8).take 8) : Nat) : Int)]

/-- A field is stored: what is known afterwards. -/
theorem storedNlist64 {w0 w : World} {x : Value} {V R g : Nat} {cs rs : Array Value} {TV TR : TypeId} {s : List UInt8} {S : Nat → Prop} (q i : Nat) (hV : Hid (w.heap[V]? = some (.cells cs TV (0, 0)))) (hB : Hid (RB w (some ⟨g, 0, none⟩) s)) (hC : Chg S w0 w)
    (hR : Hid (w.heap[R]? = some (.cells rs TR (0, 0)))) (hS : S V) (hg : g ≠ V) (hVR : V ≠ R) :
    ∃ w', w' = (w.drewN q).setCell ⟨V, i, none⟩ x ∧ Hid (w'.heap[V]? = some (.cells (cs.setIfInBounds i x) TV (0, 0))) ∧ Hid (RB w' (some ⟨g, 0, none⟩) s) ∧ Chg S w0 w' ∧ Hid (w'.heap[R]? = some (.cells rs TR (0, 0))) := by
  refine ⟨_, rfl, Lib.hid (heap_setCell_same (w.drewN q) V i _ TV _ hV.out), Lib.hid ?_, (hC.drewN q).setCell _ _ (.inl hS), Lib.hid ((heap_setCell_other (w.drewN q) _ R _ (fun e => hVR e.symm)).trans hR.out)⟩
  have hc : Chg (· = V) w ((w.drewN q).setCell ⟨V, i, none⟩ x) := ((Chg.refl _ w).drewN q).setCell _ _ (.inl rfl)
  exact hB.out.chg hc fun a ha => by cases ha; exact hg

theorem stored0Nlist64 {w0 w : World} {x : Value} {V R g : Nat} {cs rs : Array Value} {TV TR : TypeId} {s : List UInt8} {S : Nat → Prop} (i : Nat) (hV : Hid (w.heap[V]? = some (.cells cs TV (0, 0)))) (hB : Hid (RB w (some ⟨g, 0, none⟩) s)) (hC : Chg S w0 w)
    (hR : Hid (w.heap[R]? = some (.cells rs TR (0, 0)))) (hS : S V) (hg : g ≠ V) (hVR : V ≠ R) :
    ∃ w', w' = w.setCell ⟨V, i, none⟩ x ∧ Hid (w'.heap[V]? = some (.cells (cs.setIfInBounds i x) TV (0, 0))) ∧ Hid (RB w' (some ⟨g, 0, none⟩) s) ∧ Chg S w0 w' ∧ Hid (w'.heap[R]? = some (.cells rs TR (0, 0))) := storedNlist64 0 i hV hB hC hR hS hg hVR

set_option maxRecDepth 100000 in
set_option maxHeartbeats 2000000 in
theorem readNlist64_all (V R : Nat) (A : Option Addr) (l : List UInt8) (n c pos : Nat) (pv : Value) (big : Bool) (TR TV : TypeId) (w : World)
    (hN : Hid (n = l.length)) (hb : n ≤ 2147483647) (hpos : pos + 16 ≤ n) (hnc : n ≤ c) (hVR : V ≠ R)
    (hR : Hid (w.heap[R]? = some (.cells #[.slice A n c, .int .i64 pos, pv] TR (0, 0)))) (hV : Hid (w.heap[V]? = some (.cells #[.int .u32 0, .int .u8 0, .int .u8 0, .int .u16 0, .int .u64 0] TV (0, 0)))) (hA : Hid (RB w A l)) (hAR : ∀ a, A = some a → a.block ≠ R ∧ a.block ≠ V ∧ a.block < w.heap.size) :
    Calls Tryd.prog 52 #[.pointer (some ⟨V, 0, none⟩), .iface 102 (.pointer (some ⟨R, 0, none⟩)), .int .u8 (ordn big)] w fun e w' => e = .returned .nilIface ∧
      Hid (w'.heap[R]? = some (.cells #[.slice A n c, .int .i64 (pos + 16 : Nat), .int .i64 (-1)] TR (0, 0))) ∧ Hid (w'.heap[V]? = some (.cells (fNlist64 big ((l.drop pos).take 16)).toArray TV (0, 0))) ∧ Chg (fun k => k = R ∨ k = V) w w' := by
  obtain ⟨cur, hF, hmk⟩ := makeBytes 16 (by omega)
  have hmk : ∀ w, (Instr.makeSlice 22 (.int .i64 16) (.int .i64 16)).run Tryd.prog w = .ok (.slice (some ⟨w.heap.size, 0, none⟩) 16 16) (w.alloc (.cells cur.toArray 5)) := hmk
  have hRlt : R < w.heap.size := (Array.getElem?_eq_some_iff.1 hR.out).1
  have hVlt : V < w.heap.size := (Array.getElem?_eq_some_iff.1 hV.out).1
  have hs := Lib.hid (show ((l.drop pos).take 16).length = 16 by have := hN.out; simp; omega)
  have g1 := Lib.hid (heap_alloc_new w (.cells cur.toArray 5))
  have c0 : Chg (fun k => k = R ∨ k = V) w (w.alloc (.cells cur.toArray 5)) := (Chg.refl _ w).alloc _
  have R1 := Lib.hid ((Below.heap_alloc w (.cells cur.toArray 5) R hRlt).trans hR.out)
  have V1 := Lib.hid ((Below.heap_alloc w (.cells cur.toArray 5) V hVlt).trans hV.out)
  have A1 := Lib.hid (hA.out.later ((Below.refl _ w).alloc (Nat.le_refl _) (.cells cur.toArray 5)))
  obtain ⟨s, hS⟩ : ∃ s, (l.drop pos).take 16 = s := ⟨_, rfl⟩
  rw [hS] at hs ⊢
  have HS := Lib.hid hS
  clear hS
  go_enter Tryd.func52, Tryd.ntmps52
  go_wp2_with fail
  refine (readFull_all R w.heap.size A l n c pos 16 pv TR 5 cur _ hN hb hpos (by omega) (by omega) hnc (by omega) R1 g1 hF A1.out (fun a ha => ⟨(hAR a ha).1, by have := (hAR a ha).2.2; omega⟩)).mono ?_
  rintro e w2 ⟨rfl, R2, g2, hc2, hs2⟩
  rw [HS.out] at g2
  have V2 : Hid (w2.heap[V]? = some (.cells #[.int .u32 0, .int .u8 0, .int .u8 0, .int .u16 0, .int .u64 0] TV (0, 0))) := Lib.hid (hc2.row V1.out (by omega))
  have B2 : Hid (RB w2 (some ⟨w.heap.size, 0, none⟩) s) := Lib.hid (RB.of_row g2.out)
  have C2 : Chg (fun k => k = R ∨ k = V) w w2 := c0.trans (hc2.mono fun k _ e => by rcases e with e | e <;> omega)
  clear hs2 hc2 g2 g1 c0 V1 R1 A1 hmk
  generalize w.heap.size = g at *
  -- field 0
  have b0 : RB w2 (some ⟨g, 0, none⟩) s := by
    have := B2.out.drop (c := 16) (by rw [hs.out]; omega) 0
    rwa [slA_some g 0 16 0 (by omega), Nat.zero_add, List.drop_zero] at this
  have HB0 := Lib.hid b0
  clear b0
  go_wp2_with fail
  refine (u32_RB big g 0 16 16 s _ HB0.out (by rw [hs.out]; omega) (by omega) (by omega)).mono ?_
  rintro e w' ⟨rfl, q, rfl⟩
  have d0 : w2.cell? ⟨V, 0, none⟩ = some (.int .u32 0) := cell_of_row _ V 0 _ _ _ V2.out
  have fr0 : w2.frozen? ⟨V, 0, none⟩ = false := frozen_of_row _ V 0 _ _ V2.out
  have d1 : w2.cell? ⟨V, 1, none⟩ = some (.int .u8 0) := cell_of_row _ V 1 _ _ _ V2.out
  have fr1 : w2.frozen? ⟨V, 1, none⟩ = false := frozen_of_row _ V 1 _ _ V2.out
  have d2 : w2.cell? ⟨V, 2, none⟩ = some (.int .u8 0) := cell_of_row _ V 2 _ _ _ V2.out
  have fr2 : w2.frozen? ⟨V, 2, none⟩ = false := frozen_of_row _ V 2 _ _ V2.out
  have u1 : w2.cell? ⟨g, 4, none⟩ = some (.int .u8 ((num big ((s.drop 4).take 1) : Nat) : Int)) := num1 big B2.out 4 (by rw [hs.out]; omega)
  have u2 : w2.cell? ⟨g, 5, none⟩ = some (.int .u8 ((num big ((s.drop 5).take 1) : Nat) : Int)) := num1 big B2.out 5 (by rw [hs.out]; omega)
  have hgV : ¬ V = g := by omega
  have hVg : ¬ g = V := by omega
  go_wp2_with fail
  obtain ⟨w3, hw3, V3, B3, C3, R3⟩ := storedNlist64 (w0 := w) (x := .int .u32 ((num big (s.take 4) : Nat) : Int)) q 0 V2 B2 C2 R2 (.inr rfl) (by omega) hVR
  simp only [List.setIfInBounds_toArray, List.set_cons_succ, List.set_cons_zero] at V3
  rw [← hw3]
  clear hw3 V2 B2 C2 R2 d0 fr0 HB0
  obtain ⟨w4, hw4, V4, B4, C4, R4⟩ := stored0Nlist64 (w0 := w) (x := .int .u8 ((num big ((s.drop 4).take 1) : Nat) : Int)) 1 V3 B3 C3 R3 (.inr rfl) (by omega) hVR
  simp only [List.setIfInBounds_toArray, List.set_cons_succ, List.set_cons_zero] at V4
  rw [← hw4]
  clear hw4 V3 B3 C3 R3 d1 fr1 u1
  obtain ⟨w5, hw5, V5, B5, C5, R5⟩ := stored0Nlist64 (w0 := w) (x := .int .u8 ((num big ((s.drop 5).take 1) : Nat) : Int)) 2 V4 B4 C4 R4 (.inr rfl) (by omega) hVR
  simp only [List.setIfInBounds_toArray, List.set_cons_succ, List.set_cons_zero] at V5
  rw [← hw5]
  clear hw5 V4 B4 C4 R4 d2 fr2 u2
  clear hgV hVg
  -- field 3
  have b3 : RB w5 (some ⟨g, 6, none⟩) (s.drop 6) := by
    have := B5.out.drop (c := 16) (by rw [hs.out]; omega) 6
    rwa [slA_some g 0 16 6 (by omega), Nat.zero_add] at this
  have HB3 := Lib.hid b3
  clear b3
  go_wp2_with fail
  refine (u16_RB big g 6 10 10 (s.drop 6) _ HB3.out (by rw [List.length_drop, hs.out]; omega) (by omega) (by omega)).mono ?_
  rintro e w' ⟨rfl, q, rfl⟩
  have d3 : w5.cell? ⟨V, 3, none⟩ = some (.int .u16 0) := cell_of_row _ V 3 _ _ _ V5.out
  have fr3 : w5.frozen? ⟨V, 3, none⟩ = false := frozen_of_row _ V 3 _ _ V5.out
  go_wp2_with fail
  obtain ⟨w6, hw6, V6, B6, C6, R6⟩ := storedNlist64 (w0 := w) (x := .int .u16 ((num big ((s.drop 6).take 2) : Nat) : Int)) q 3 V5 B5 C5 R5 (.inr rfl) (by omega) hVR
  simp only [List.setIfInBounds_toArray, List.set_cons_succ, List.set_cons_zero] at V6
  rw [← hw6]
  clear hw6 V5 B5 C5 R5 d3 fr3 HB3
  -- field 4
  have b4 : RB w6 (some ⟨g, 8, none⟩) (s.drop 8) := by
    have := B6.out.drop (c := 16) (by rw [hs.out]; omega) 8
    rwa [slA_some g 0 16 8 (by omega), Nat.zero_add] at this
  have HB4 := Lib.hid b4
  clear b4
  go_wp2_with fail
  refine (u64_RB big g 8 8 8 (s.drop 8) _ HB4.out (by rw [List.length_drop, hs.out]; omega) (by omega) (by omega)).mono ?_
  rintro e w' ⟨rfl, q, rfl⟩
  have d4 : w6.cell? ⟨V, 4, none⟩ = some (.int .u64 0) := cell_of_row _ V 4 _ _ _ V6.out
  have fr4 : w6.frozen? ⟨V, 4, none⟩ = false := frozen_of_row _ V 4 _ _ V6.out
  go_wp2
  obtain ⟨w7, hw7, V7, B7, C7, R7⟩ := storedNlist64 (w0 := w) (x := .int .u64 ((num big ((s.drop 8).take 8) : Nat) : Int)) q 4 V6 B6 C6 R6 (.inr rfl) (by omega) hVR
  simp only [List.setIfInBounds_toArray, List.set_cons_succ, List.set_cons_zero] at V7
  rw [← hw7]
  clear hw7 V6 B6 C6 R6 d4 fr4 HB4
  go_ret
  exact ⟨rfl, R7, V7, C7⟩


set_option maxRecDepth 100000 in
set_option maxHeartbeats 1000000 in
theorem readNlist64_short (V R : Nat) (A : Option Addr) (l : List UInt8) (n c pos : Nat) (pv : Value) (big : Bool) (TR : TypeId) (w : World) (TE TU : TypeId) (vE vU : Value) (hErr : Hid (ErrsAt w TE TU vE vU))
    (hN : Hid (n = l.length)) (hb : n ≤ 2147483647) (hpos : n < pos + 16) (hnc : n ≤ c) (h3 : 3 ≤ R)
    (hR : Hid (w.heap[R]? = some (.cells #[.slice A n c, .int .i64 pos, pv] TR (0, 0)))) (hA : Hid (RB w A l)) (hAR : ∀ a, A = some a → a.block ≠ R ∧ a.block < w.heap.size) :
    Calls Tryd.prog 52 #[.pointer (some ⟨V, 0, none⟩), .iface 102 (.pointer (some ⟨R, 0, none⟩)), .int .u8 (ordn big)] w fun e w' => (∃ T v, e = .returned (.iface T v)) ∧ Chg (fun k => k = R) w w' := by
  obtain ⟨cur, hF, hmk⟩ := makeBytes 16 (by omega)
  have hmk : ∀ w, (Instr.makeSlice 22 (.int .i64 16) (.int .i64 16)).run Tryd.prog w = .ok (.slice (some ⟨w.heap.size, 0, none⟩) 16 16) (w.alloc (.cells cur.toArray 5)) := hmk
  have hRlt : R < w.heap.size := (Array.getElem?_eq_some_iff.1 hR.out).1
  have g1 := Lib.hid (heap_alloc_new w (.cells cur.toArray 5))
  have c0 : Chg (fun k => k = R) w (w.alloc (.cells cur.toArray 5)) := (Chg.refl _ w).alloc _
  have R1 := Lib.hid ((Below.heap_alloc w (.cells cur.toArray 5) R hRlt).trans hR.out)
  have A1 := Lib.hid (hA.out.later ((Below.refl _ w).alloc (Nat.le_refl _) (.cells cur.toArray 5)))
  have E1 := Lib.hid (hErr.out.chg c0 (fun e => by omega) (fun e => by omega))
  go_enter Tryd.func52, Tryd.ntmps52
  go_wp2_with fail
  refine (readFull_short R w.heap.size A l n c pos 16 pv TR 5 cur _ TE TU vE vU E1 hN hb hpos (by omega) (by omega) hnc ⟨h3, by omega⟩ (by omega) R1 g1 hF A1.out (fun a ha => ⟨(hAR a ha).1, by have := (hAR a ha).2; omega⟩)).mono ?_
  rintro e w2 ⟨⟨x, T, v, rfl⟩, hc2⟩
  have C2 : Chg (fun k => k = R) w w2 := c0.trans (hc2.mono fun k _ e => by rcases e with e | e <;> omega)
  clear hc2 g1 c0 R1 A1 hmk
  go_wp2
  go_ret
  exact ⟨⟨_, _, rfl⟩, C2⟩

theorem oneNlist64 (big : Bool) (s : List UInt8) : ∀ v ∈ (fNlist64 big s).toArray.toList, v.oneCell' = true := List.all_eq_true.1 (show (fNlist64 big s).all (·.oneCell') = true from rfl)

set_option maxRecDepth 100000 in
set_option maxHeartbeats 1000000 in
theorem zzNlist64_all (A : Option Addr) (l : List UInt8) (n c : Nat) (big : Bool) (w : World)
    (hN : Hid (n = l.length)) (hb : n ≤ 2147483647) (hZ : 16 ≤ n) (hnc : n ≤ c) (hA : Hid (RB w A l)) (hAl : ∀ a, A = some a → a.block < w.heap.size) :
    Calls Tryd.prog 38 #[.int .u8 (ordn big), .slice A n c] w fun e w' => e = .returned (.tuple #[.agg (fNlist64 big (l.take 16)).toArray, .nilIface]) ∧ Below w.heap.size w w' := by
  have hV := Lib.hid (heap_alloc2_old w (.cells #[.int .u32 0, .int .u8 0, .int .u8 0, .int .u16 0, .int .u64 0] 76) (.cells #[.slice A n c, .int .i64 0, .int .i64 (-1)] 112))
  have hR := Lib.hid (heap_alloc2_new w (.cells #[.int .u32 0, .int .u8 0, .int .u8 0, .int .u16 0, .int .u64 0] 76) (.cells #[.slice A n c, .int .i64 0, .int .i64 (-1)] 112))
  have hb0 : Below w.heap.size w ((w.alloc (.cells #[.int .u32 0, .int .u8 0, .int .u8 0, .int .u16 0, .int .u64 0] 76)).alloc (.cells #[.slice A n c, .int .i64 0, .int .i64 (-1)] 112)) := ((Below.refl _ _).alloc (Nat.le_refl _) _).alloc (by simp) _
  have hA2 := Lib.hid (hA.out.later hb0)
  have hsz : ((w.alloc (.cells #[.int .u32 0, .int .u8 0, .int .u8 0, .int .u16 0, .int .u64 0] 76)).alloc (.cells #[.slice A n c, .int .i64 0, .int .i64 (-1)] 112)).heap.size = w.heap.size + 2 := by simp
  have HS := Lib.hid hsz
  clear hsz
  go_enter Tryd.func38, Tryd.ntmps38
  go_wp2_with fail
  refine (newReader _ A n c rfl _).mono ?_
  rintro e w' ⟨rfl, rfl⟩
  go_wp2_with fail
  refine (readNlist64_all w.heap.size (w.heap.size + 1) A l n c 0 (.int .i64 (-1)) big 112 76 _ hN hb (by omega) hnc (by omega) hR hV hA2 (fun a ha => by have := hAl a ha; rw [HS.out]; omega)).mono ?_
  rintro e w3 ⟨rfl, R3, V3, C3⟩
  rw [List.drop_zero] at V3
  have hb3 : Below w.heap.size w w3 := hb0.trans (C3.below (by rw [HS.out]; omega) (fun k hk e => by rcases e with e | e <;> omega))
  clear R3 C3 hb0
  go_wp2_with (first | (refine wpList_load_row rfl 76 _ rfl w.heap.size rfl 76 (fNlist64 big (l.take 16)).toArray (0, 0) _ V3.out Tryd.underlying76 rfl (by kernel_rfl) ?_) | (refine wpList_store_self rfl 76 _ _ rfl w.heap.size 76 (fNlist64 big (l.take 16)).toArray rfl rfl V3.out (by kernel_rfl) (oneNlist64 _ _) ?_))
  exact bodyPost_ret (results_cell_tmp rfl _ _ w.heap.size 76 (fNlist64 big (l.take 16)).toArray (0, 0) _ rfl V3.out Tryd.underlying76 rfl (by kernel_rfl)) rfl ⟨rfl, hb3⟩

set_option maxRecDepth 100000 in
set_option maxHeartbeats 1000000 in
theorem zzNlist64_short (A : Option Addr) (l : List UInt8) (n c : Nat) (big : Bool) (w : World) (TE TU : TypeId) (vE vU : Value) (hErr : Hid (ErrsAt w TE TU vE vU)) (h3 : 3 ≤ w.heap.size)
    (hN : Hid (n = l.length)) (hb : n ≤ 2147483647) (hZ : n < 16) (hnc : n ≤ c) (hA : Hid (RB w A l)) (hAl : ∀ a, A = some a → a.block < w.heap.size) :
    Calls Tryd.prog 38 #[.int .u8 (ordn big), .slice A n c] w fun e w' => (∃ T v, e = .returned (.tuple #[.agg #[.int .u32 0, .int .u8 0, .int .u8 0, .int .u16 0, .int .u64 0], .iface T v])) ∧ Below w.heap.size w w' := by
  have hV := Lib.hid (heap_alloc2_old w (.cells #[.int .u32 0, .int .u8 0, .int .u8 0, .int .u16 0, .int .u64 0] 76) (.cells #[.slice A n c, .int .i64 0, .int .i64 (-1)] 112))
  have hR := Lib.hid (heap_alloc2_new w (.cells #[.int .u32 0, .int .u8 0, .int .u8 0, .int .u16 0, .int .u64 0] 76) (.cells #[.slice A n c, .int .i64 0, .int .i64 (-1)] 112))
  have hb0 : Below w.heap.size w ((w.alloc (.cells #[.int .u32 0, .int .u8 0, .int .u8 0, .int .u16 0, .int .u64 0] 76)).alloc (.cells #[.slice A n c, .int .i64 0, .int .i64 (-1)] 112)) := ((Below.refl _ _).alloc (Nat.le_refl _) _).alloc (by simp) _
  have hA2 := Lib.hid (hA.out.later hb0)
  have hE2 := Lib.hid (hErr.out.chg (Chg.of_below (S := fun k => w.heap.size ≤ k) hb0 (fun k _ h => h)) (by omega) (by omega))
  have hsz : ((w.alloc (.cells #[.int .u32 0, .int .u8 0, .int .u8 0, .int .u16 0, .int .u64 0] 76)).alloc (.cells #[.slice A n c, .int .i64 0, .int .i64 (-1)] 112)).heap.size = w.heap.size + 2 := by simp
  have HS := Lib.hid hsz
  clear hsz
  go_enter Tryd.func38, Tryd.ntmps38
  go_wp2_with fail
  refine (newReader _ A n c rfl _).mono ?_
  rintro e w' ⟨rfl, rfl⟩
  go_wp2_with fail
  refine (readNlist64_short w.heap.size (w.heap.size + 1) A l n c 0 (.int .i64 (-1)) big 112 _ TE TU vE vU hE2 hN hb (by omega) hnc (by omega) hR hA2 (fun a ha => by have := hAl a ha; rw [HS.out]; omega)).mono ?_
  rintro e w3 ⟨⟨TX, vX, rfl⟩, C3⟩
  have V3 : Hid (w3.heap[w.heap.size]? = some (.cells #[.int .u32 0, .int .u8 0, .int .u8 0, .int .u16 0, .int .u64 0] 76 (0, 0))) := Lib.hid (C3.row hV.out (by omega))
  have hb3 : Below w.heap.size w w3 := hb0.trans (C3.below (by rw [HS.out]; omega) (fun k hk e => by omega))
  clear C3 hb0
  go_wp2_with (first | (refine wpList_load_row rfl 76 _ rfl w.heap.size rfl 76 #[.int .u32 0, .int .u8 0, .int .u8 0, .int .u16 0, .int .u64 0] (0, 0) _ V3.out Tryd.underlying76 rfl (by kernel_rfl) ?_) | (refine wpList_store_self rfl 76 _ _ rfl w.heap.size 76 #[.int .u32 0, .int .u8 0, .int .u8 0, .int .u16 0, .int .u64 0] rfl rfl V3.out (by kernel_rfl) (List.all_eq_true.1 rfl) ?_))
  exact bodyPost_ret (results_cell_tmp rfl _ _ w.heap.size 76 #[.int .u32 0, .int .u8 0, .int .u8 0, .int .u16 0, .int .u64 0] (0, 0) _ rfl V3.out Tryd.underlying76 rfl (by kernel_rfl)) rfl ⟨⟨_, _, rfl⟩, hb3⟩

end Go.Proofs.YtcdknbclhdllkaaDoor
