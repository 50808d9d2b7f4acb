/-
  Reading a number of whatever width into a cell of a row.
-/
import Derived.Test.YtbpebngjpecncaaGreatDoorOrd
import Derived.Test.YtbpebngjpecncaaGreatDoorSeekP
import Derived.Test.YtbpebngjpecncaaGreatDoorName
import Derived.Test.YtbpebngjpecncaaGreatDoorNum1
namespace Go.Proofs.YtbpebngjpecncaaGreatDoor
set_option linter.unusedVariables false
set_option linter.unusedSimpArgs false
set_option maxRecDepth 100000
open Go Go.RowKit
attribute [local go_sem ↓] Go.wp_at_zero Go.wp_at_succ

theorem cellL {w : World} {V : Nat} {cs : List Value} {TV : TypeId} {fr : Nat × Nat} {v : Value} (h : Hid (w.heap[V]? = some (.cells cs.toArray TV fr))) (i : Nat) (hv : cs[i]? = some v) : w.cell? ⟨V, i, none⟩ = some v := by
  rw [cell_of_row w V i _ _ _ h.out, List.getElem?_toArray]
  exact hv

theorem ta8_8 (a : Addr) (w : World) : (Instr.typeAssert (.iface 169 (.pointer (some a))) 20 169 true).run Tryz.prog w = .ok (.tuple #[.pointer (some a), .bool true]) w := by kernel_rfl
theorem ta8_16 (a : Addr) (w : World) : (Instr.typeAssert (.iface 169 (.pointer (some a))) 20 163 true).run Tryz.prog w = .ok (.tuple #[.pointer none, .bool false]) w := by kernel_rfl
theorem ta8_32 (a : Addr) (w : World) : (Instr.typeAssert (.iface 169 (.pointer (some a))) 20 154 true).run Tryz.prog w = .ok (.tuple #[.pointer none, .bool false]) w := by kernel_rfl
theorem ta8_64 (a : Addr) (w : World) : (Instr.typeAssert (.iface 169 (.pointer (some a))) 20 176 true).run Tryz.prog w = .ok (.tuple #[.pointer none, .bool false]) w := by kernel_rfl
theorem ta16_8 (a : Addr) (w : World) : (Instr.typeAssert (.iface 163 (.pointer (some a))) 20 169 true).run Tryz.prog w = .ok (.tuple #[.pointer none, .bool false]) w := by kernel_rfl
theorem ta16_16 (a : Addr) (w : World) : (Instr.typeAssert (.iface 163 (.pointer (some a))) 20 163 true).run Tryz.prog w = .ok (.tuple #[.pointer (some a), .bool true]) w := by kernel_rfl
theorem ta16_32 (a : Addr) (w : World) : (Instr.typeAssert (.iface 163 (.pointer (some a))) 20 154 true).run Tryz.prog w = .ok (.tuple #[.pointer none, .bool false]) w := by kernel_rfl
theorem ta16_64 (a : Addr) (w : World) : (Instr.typeAssert (.iface 163 (.pointer (some a))) 20 176 true).run Tryz.prog w = .ok (.tuple #[.pointer none, .bool false]) w := by kernel_rfl
theorem ta32_8 (a : Addr) (w : World) : (Instr.typeAssert (.iface 154 (.pointer (some a))) 20 169 true).run Tryz.prog w = .ok (.tuple #[.pointer none, .bool false]) w := by kernel_rfl
theorem ta32_16 (a : Addr) (w : World) : (Instr.typeAssert (.iface 154 (.pointer (some a))) 20 163 true).run Tryz.prog w = .ok (.tuple #[.pointer none, .bool false]) w := by kernel_rfl
theorem ta32_32 (a : Addr) (w : World) : (Instr.typeAssert (.iface 154 (.pointer (some a))) 20 154 true).run Tryz.prog w = .ok (.tuple #[.pointer (some a), .bool true]) w := by kernel_rfl
theorem ta32_64 (a : Addr) (w : World) : (Instr.typeAssert (.iface 154 (.pointer (some a))) 20 176 true).run Tryz.prog w = .ok (.tuple #[.pointer none, .bool false]) w := by kernel_rfl
theorem ta64_8 (a : Addr) (w : World) : (Instr.typeAssert (.iface 176 (.pointer (some a))) 20 169 true).run Tryz.prog w = .ok (.tuple #[.pointer none, .bool false]) w := by kernel_rfl
theorem ta64_16 (a : Addr) (w : World) : (Instr.typeAssert (.iface 176 (.pointer (some a))) 20 163 true).run Tryz.prog w = .ok (.tuple #[.pointer none, .bool false]) w := by kernel_rfl
theorem ta64_32 (a : Addr) (w : World) : (Instr.typeAssert (.iface 176 (.pointer (some a))) 20 154 true).run Tryz.prog w = .ok (.tuple #[.pointer none, .bool false]) w := by kernel_rfl
theorem ta64_64 (a : Addr) (w : World) : (Instr.typeAssert (.iface 176 (.pointer (some a))) 20 176 true).run Tryz.prog w = .ok (.tuple #[.pointer (some a), .bool true]) w := by kernel_rfl

set_option maxHeartbeats 1000000 in
theorem readNum8 (V M o : Nat) (cs : List Value) (x : Int) (rd : Value) (D : Nat → Prop) (l : List UInt8) (pos : Nat) (TV : TypeId) (w : World) (hR : Hid (Rdr w rd M D l pos)) (hpos : Hid (pos + 1 ≤ l.length)) (hVM : V ≠ M) (hVD : Hid (¬ D V))
    (hV : Hid (w.heap[V]? = some (.cells cs.toArray TV (0, 0)))) (hx : Hid (cs[o]? = some (.int .u8 x))) :
    Calls Tryz.prog 45 #[rd, .iface 169 (.pointer (some ⟨V, o, none⟩))] w fun e w' => e = .returned .nilIface ∧
      Hid (Rdr w' rd M D l (pos + 1)) ∧ Hid (w'.heap[V]? = some (.cells (cs.set o (.int .u8 ((num false ((l.drop pos).take 1) : Nat) : Int))).toArray TV (0, 0))) ∧ Chg (fun k => k = M ∨ k = V) w w' := by
  obtain ⟨cur, hF, hmk⟩ := makeBytes 1 (by omega)
  have hmk : ∀ w, (Instr.makeSlice 34 (.int .i64 1) (.int .i64 1)).run Tryz.prog w = .ok (.slice (some ⟨w.heap.size, 0, none⟩) 1 1) (w.alloc (.cells cur.toArray 5)) := hmk
  have hRlt : M < w.heap.size := hR.out.lt
  have hVlt : V < w.heap.size := (Array.getElem?_eq_some_iff.1 hV.out).1
  have hs := Lib.hid (show ((l.drop pos).take 1).length = 1 by have := hpos.out; simp; omega)
  have g1 := Lib.hid (heap_alloc_new w (.cells cur.toArray 5))
  have c0 : Chg (fun k => k = M ∨ k = V) w (w.alloc (.cells cur.toArray 5)) := (Chg.refl _ w).alloc _
  have V1 := Lib.hid ((Below.heap_alloc w (.cells cur.toArray 5) V hVlt).trans hV.out)
  have R1 := Lib.hid (hR.out.later ((Below.refl _ w).alloc (Nat.le_refl _) (.cells cur.toArray 5)))
  have hgD : Hid (¬ D w.heap.size) := Lib.hid (fun e => absurd (hR.out.d _ e).1 (Nat.lt_irrefl _))
  obtain ⟨s, hS⟩ : ∃ s, (l.drop pos).take 1 = s := ⟨_, rfl⟩
  rw [hS] at hs ⊢
  have ht := Lib.hid (show s.take 1 = s from List.take_of_length_le (by rw [hs.out]; exact Nat.le_refl _))
  have HS := Lib.hid hS
  clear hS
  have ta8 := ta8_8 ⟨V, o, none⟩
  go_enter Tryz.func45, Tryz.ntmps45
  go_wp2_with fail
  refine (rdr_full rd M w.heap.size D l pos 1 5 cur _ R1 hpos (by omega) g1 hF hgD (by omega)).mono ?_
  rintro e w2 ⟨rfl, R2, g2, hc2, hs2⟩
  rw [HS.out] at g2
  have V2 := Lib.hid (hc2.row V1.out (by omega))
  have B2 : Hid (RB w2 (some ⟨w.heap.size, 0, none⟩) s) := Lib.hid (RB.of_row g2.out)
  have C2 : Chg (fun k => k = M ∨ k = V) w w2 := c0.trans (hc2.mono fun k _ e => by rcases e with e | e <;> omega)
  clear hs2 hc2 g2 g1 c0 V1 R1 hmk hgD
  generalize w.heap.size = g at *
  have d1 : w2.cell? ⟨g, 0, none⟩ = some (.int .u8 ((num false s : Nat) : Int)) := by
    have := num1 false B2.out 0 (by rw [hs.out]; omega)
    rwa [List.drop_zero, ht.out] at this
  have d0 := cellL V2 o hx.out
  have fr0 : w2.frozen? ⟨V, o, none⟩ = false := frozen_of_row _ V o _ _ V2.out
  obtain ⟨w3, hw3, V3, B3, C3, R3⟩ := storedV (w0 := w) (x := .int .u8 ((num false s : Nat) : Int)) 0 o V2 B2 C2 R2 (.inr rfl) (by omega) hVM hVD
  rw [show w2.drewN 0 = w2 from rfl] at hw3
  go_wp2
  rw [← hw3]
  go_ret
  exact ⟨rfl, R3, Lib.hid (by have := V3.out; rwa [List.setIfInBounds_toArray] at this), C3⟩


set_option maxHeartbeats 1000000 in
theorem readNum16 (V M o : Nat) (cs : List Value) (x : Int) (rd : Value) (D : Nat → Prop) (l : List UInt8) (pos : Nat) (TV : TypeId) (w : World) (hR : Hid (Rdr w rd M D l pos)) (hpos : Hid (pos + 2 ≤ l.length)) (hVM : V ≠ M) (hVD : Hid (¬ D V))
    (hV : Hid (w.heap[V]? = some (.cells cs.toArray TV (0, 0)))) (hx : Hid (cs[o]? = some (.int .u16 x))) :
    Calls Tryz.prog 45 #[rd, .iface 163 (.pointer (some ⟨V, o, none⟩))] w fun e w' => e = .returned .nilIface ∧
      Hid (Rdr w' rd M D l (pos + 2)) ∧ Hid (w'.heap[V]? = some (.cells (cs.set o (.int .u16 ((num false ((l.drop pos).take 2) : Nat) : Int))).toArray TV (0, 0))) ∧ Chg (fun k => k = M ∨ k = V) w w' := by
  obtain ⟨cur, hF, hmk⟩ := makeBytes 2 (by omega)
  have hmk : ∀ w, (Instr.makeSlice 34 (.int .i64 2) (.int .i64 2)).run Tryz.prog w = .ok (.slice (some ⟨w.heap.size, 0, none⟩) 2 2) (w.alloc (.cells cur.toArray 5)) := hmk
  have hRlt : M < w.heap.size := hR.out.lt
  have hVlt : V < w.heap.size := (Array.getElem?_eq_some_iff.1 hV.out).1
  have hs := Lib.hid (show ((l.drop pos).take 2).length = 2 by have := hpos.out; simp; omega)
  have g1 := Lib.hid (heap_alloc_new w (.cells cur.toArray 5))
  have c0 : Chg (fun k => k = M ∨ k = V) w (w.alloc (.cells cur.toArray 5)) := (Chg.refl _ w).alloc _
  have V1 := Lib.hid ((Below.heap_alloc w (.cells cur.toArray 5) V hVlt).trans hV.out)
  have R1 := Lib.hid (hR.out.later ((Below.refl _ w).alloc (Nat.le_refl _) (.cells cur.toArray 5)))
  have hgD : Hid (¬ D w.heap.size) := Lib.hid (fun e => absurd (hR.out.d _ e).1 (Nat.lt_irrefl _))
  obtain ⟨s, hS⟩ : ∃ s, (l.drop pos).take 2 = s := ⟨_, rfl⟩
  rw [hS] at hs ⊢
  have ht := Lib.hid (show s.take 2 = s from List.take_of_length_le (by rw [hs.out]; exact Nat.le_refl _))
  have HS := Lib.hid hS
  clear hS
  have ta8 := ta16_8 ⟨V, o, none⟩
  have ta16 := ta16_16 ⟨V, o, none⟩
  go_enter Tryz.func45, Tryz.ntmps45
  go_wp2_with fail
  refine (rdr_full rd M w.heap.size D l pos 2 5 cur _ R1 hpos (by omega) g1 hF hgD (by omega)).mono ?_
  rintro e w2 ⟨rfl, R2, g2, hc2, hs2⟩
  rw [HS.out] at g2
  have V2 := Lib.hid (hc2.row V1.out (by omega))
  have B2 : Hid (RB w2 (some ⟨w.heap.size, 0, none⟩) s) := Lib.hid (RB.of_row g2.out)
  have C2 : Chg (fun k => k = M ∨ k = V) w w2 := c0.trans (hc2.mono fun k _ e => by rcases e with e | e <;> omega)
  clear hs2 hc2 g2 g1 c0 V1 R1 hmk hgD
  generalize w.heap.size = g at *
  go_wp2_with fail
  refine (u16_RB false g 0 2 2 s _ B2.out (by rw [hs.out]; omega) (by omega) (by omega)).mono ?_
  rintro e w' ⟨rfl, q, rfl⟩
  rw [ht.out]
  have d0 := cellL V2 o hx.out
  have fr0 : w2.frozen? ⟨V, o, none⟩ = false := frozen_of_row _ V o _ _ V2.out
  go_wp2
  obtain ⟨w3, hw3, V3, B3, C3, R3⟩ := storedV (w0 := w) (x := .int .u16 ((num false s : Nat) : Int)) q o V2 B2 C2 R2 (.inr rfl) (by omega) hVM hVD
  rw [← hw3]
  go_ret
  exact ⟨rfl, R3, Lib.hid (by have := V3.out; rwa [List.setIfInBounds_toArray] at this), C3⟩


set_option maxHeartbeats 1000000 in
theorem readNum32 (V M o : Nat) (cs : List Value) (x : Int) (rd : Value) (D : Nat → Prop) (l : List UInt8) (pos : Nat) (TV : TypeId) (w : World) (hR : Hid (Rdr w rd M D l pos)) (hpos : Hid (pos + 4 ≤ l.length)) (hVM : V ≠ M) (hVD : Hid (¬ D V))
    (hV : Hid (w.heap[V]? = some (.cells cs.toArray TV (0, 0)))) (hx : Hid (cs[o]? = some (.int .u32 x))) :
    Calls Tryz.prog 45 #[rd, .iface 154 (.pointer (some ⟨V, o, none⟩))] w fun e w' => e = .returned .nilIface ∧
      Hid (Rdr w' rd M D l (pos + 4)) ∧ Hid (w'.heap[V]? = some (.cells (cs.set o (.int .u32 ((num false ((l.drop pos).take 4) : Nat) : Int))).toArray TV (0, 0))) ∧ Chg (fun k => k = M ∨ k = V) w w' := by
  obtain ⟨cur, hF, hmk⟩ := makeBytes 4 (by omega)
  have hmk : ∀ w, (Instr.makeSlice 34 (.int .i64 4) (.int .i64 4)).run Tryz.prog w = .ok (.slice (some ⟨w.heap.size, 0, none⟩) 4 4) (w.alloc (.cells cur.toArray 5)) := hmk
  have hRlt : M < w.heap.size := hR.out.lt
  have hVlt : V < w.heap.size := (Array.getElem?_eq_some_iff.1 hV.out).1
  have hs := Lib.hid (show ((l.drop pos).take 4).length = 4 by have := hpos.out; simp; omega)
  have g1 := Lib.hid (heap_alloc_new w (.cells cur.toArray 5))
  have c0 : Chg (fun k => k = M ∨ k = V) w (w.alloc (.cells cur.toArray 5)) := (Chg.refl _ w).alloc _
  have V1 := Lib.hid ((Below.heap_alloc w (.cells cur.toArray 5) V hVlt).trans hV.out)
  have R1 := Lib.hid (hR.out.later ((Below.refl _ w).alloc (Nat.le_refl _) (.cells cur.toArray 5)))
  have hgD : Hid (¬ D w.heap.size) := Lib.hid (fun e => absurd (hR.out.d _ e).1 (Nat.lt_irrefl _))
  obtain ⟨s, hS⟩ : ∃ s, (l.drop pos).take 4 = s := ⟨_, rfl⟩
  rw [hS] at hs ⊢
  have ht := Lib.hid (show s.take 4 = s from List.take_of_length_le (by rw [hs.out]; exact Nat.le_refl _))
  have HS := Lib.hid hS
  clear hS
  have ta8 := ta32_8 ⟨V, o, none⟩
  have ta16 := ta32_16 ⟨V, o, none⟩
  have ta32 := ta32_32 ⟨V, o, none⟩
  go_enter Tryz.func45, Tryz.ntmps45
  go_wp2_with fail
  refine (rdr_full rd M w.heap.size D l pos 4 5 cur _ R1 hpos (by omega) g1 hF hgD (by omega)).mono ?_
  rintro e w2 ⟨rfl, R2, g2, hc2, hs2⟩
  rw [HS.out] at g2
  have V2 := Lib.hid (hc2.row V1.out (by omega))
  have B2 : Hid (RB w2 (some ⟨w.heap.size, 0, none⟩) s) := Lib.hid (RB.of_row g2.out)
  have C2 : Chg (fun k => k = M ∨ k = V) w w2 := c0.trans (hc2.mono fun k _ e => by rcases e with e | e <;> omega)
  clear hs2 hc2 g2 g1 c0 V1 R1 hmk hgD
  generalize w.heap.size = g at *
  go_wp2_with fail
  refine (u32_RB false g 0 4 4 s _ B2.out (by rw [hs.out]; omega) (by omega) (by omega)).mono ?_
  rintro e w' ⟨rfl, q, rfl⟩
  rw [ht.out]
  have d0 := cellL V2 o hx.out
  have fr0 : w2.frozen? ⟨V, o, none⟩ = false := frozen_of_row _ V o _ _ V2.out
  go_wp2
  obtain ⟨w3, hw3, V3, B3, C3, R3⟩ := storedV (w0 := w) (x := .int .u32 ((num false s : Nat) : Int)) q o V2 B2 C2 R2 (.inr rfl) (by omega) hVM hVD
  rw [← hw3]
  go_ret
  exact ⟨rfl, R3, Lib.hid (by have := V3.out; rwa [List.setIfInBounds_toArray] at this), C3⟩


set_option maxHeartbeats 1000000 in
theorem readNum64 (V M o : Nat) (cs : List Value) (x : Int) (rd : Value) (D : Nat → Prop) (l : List UInt8) (pos : Nat) (TV : TypeId) (w : World) (hR : Hid (Rdr w rd M D l pos)) (hpos : Hid (pos + 8 ≤ l.length)) (hVM : V ≠ M) (hVD : Hid (¬ D V))
    (hV : Hid (w.heap[V]? = some (.cells cs.toArray TV (0, 0)))) (hx : Hid (cs[o]? = some (.int .u64 x))) :
    Calls Tryz.prog 45 #[rd, .iface 176 (.pointer (some ⟨V, o, none⟩))] w fun e w' => e = .returned .nilIface ∧
      Hid (Rdr w' rd M D l (pos + 8)) ∧ Hid (w'.heap[V]? = some (.cells (cs.set o (.int .u64 ((num false ((l.drop pos).take 8) : Nat) : Int))).toArray TV (0, 0))) ∧ Chg (fun k => k = M ∨ k = V) w w' := by
  obtain ⟨cur, hF, hmk⟩ := makeBytes 8 (by omega)
  have hmk : ∀ w, (Instr.makeSlice 34 (.int .i64 8) (.int .i64 8)).run Tryz.prog w = .ok (.slice (some ⟨w.heap.size, 0, none⟩) 8 8) (w.alloc (.cells cur.toArray 5)) := hmk
  have hRlt : M < w.heap.size := hR.out.lt
  have hVlt : V < w.heap.size := (Array.getElem?_eq_some_iff.1 hV.out).1
  have hs := Lib.hid (show ((l.drop pos).take 8).length = 8 by have := hpos.out; simp; omega)
  have g1 := Lib.hid (heap_alloc_new w (.cells cur.toArray 5))
  have c0 : Chg (fun k => k = M ∨ k = V) w (w.alloc (.cells cur.toArray 5)) := (Chg.refl _ w).alloc _
  have V1 := Lib.hid ((Below.heap_alloc w (.cells cur.toArray 5) V hVlt).trans hV.out)
  have R1 := Lib.hid (hR.out.later ((Below.refl _ w).alloc (Nat.le_refl _) (.cells cur.toArray 5)))
  have hgD : Hid (¬ D w.heap.size) := Lib.hid (fun e => absurd (hR.out.d _ e).1 (Nat.lt_irrefl _))
  obtain ⟨s, hS⟩ : ∃ s, (l.drop pos).take 8 = s := ⟨_, rfl⟩
  rw [hS] at hs ⊢
  have ht := Lib.hid (show s.take 8 = s from List.take_of_length_le (by rw [hs.out]; exact Nat.le_refl _))
  have HS := Lib.hid hS
  clear hS
  have ta8 := ta64_8 ⟨V, o, none⟩
  have ta16 := ta64_16 ⟨V, o, none⟩
  have ta32 := ta64_32 ⟨V, o, none⟩
  have ta64 := ta64_64 ⟨V, o, none⟩
  go_enter Tryz.func45, Tryz.ntmps45
  go_wp2_with fail
  refine (rdr_full rd M w.heap.size D l pos 8 5 cur _ R1 hpos (by omega) g1 hF hgD (by omega)).mono ?_
  rintro e w2 ⟨rfl, R2, g2, hc2, hs2⟩
  rw [HS.out] at g2
  have V2 := Lib.hid (hc2.row V1.out (by omega))
  have B2 : Hid (RB w2 (some ⟨w.heap.size, 0, none⟩) s) := Lib.hid (RB.of_row g2.out)
  have C2 : Chg (fun k => k = M ∨ k = V) w w2 := c0.trans (hc2.mono fun k _ e => by rcases e with e | e <;> omega)
  clear hs2 hc2 g2 g1 c0 V1 R1 hmk hgD
  generalize w.heap.size = g at *
  go_wp2_with fail
  refine (u64_RB false g 0 8 8 s _ B2.out (by rw [hs.out]; omega) (by omega) (by omega)).mono ?_
  rintro e w' ⟨rfl, q, rfl⟩
  rw [ht.out]
  have d0 := cellL V2 o hx.out
  have fr0 : w2.frozen? ⟨V, o, none⟩ = false := frozen_of_row _ V o _ _ V2.out
  go_wp2
  obtain ⟨w3, hw3, V3, B3, C3, R3⟩ := storedV (w0 := w) (x := .int .u64 ((num false s : Nat) : Int)) q o V2 B2 C2 R2 (.inr rfl) (by omega) hVM hVD
  rw [← hw3]
  go_ret
  exact ⟨rfl, R3, Lib.hid (by have := V3.out; rwa [List.setIfInBounds_toArray] at this), C3⟩

end Go.Proofs.YtbpebngjpecncaaGreatDoor
