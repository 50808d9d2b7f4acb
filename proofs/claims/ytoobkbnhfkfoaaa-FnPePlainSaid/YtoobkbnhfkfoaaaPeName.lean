/-
  The name of a symbol: the contracts of coffTo, FullName.
-/
import Derived.Test.YtoobkbnhfkfoaaaPeSym
import Derived.Test.YtoobkbnhfkfoaaaName
import Derived.Test.YtoobkbnhfkfoaaaCoffRec
import Derived.Test.YtoobkbnhfkfoaaaRow
import Derived.Deep.WholeRow
namespace Go.Proofs.Ytoobkbnhfkfoaaa
set_option linter.unusedVariables false
set_option linter.unusedSimpArgs false
open Go Go.RowKit
attribute [local go_sem ↓] Go.wp_at_zero Go.wp_at_succ

theorem cellR {w : World} {g : Nat} {l : List Value} {T : TypeId} {fr : Nat × Nat} (h : w.heap[g]? = some (.cells l.toArray T fr)) (i : Nat) (v : Value) (hv : l[i]? = some v) : w.cell? ⟨g, i, none⟩ = some v := by
  simp [World.cell?, h, hv]

set_option maxRecDepth 100000 in
set_option maxHeartbeats 2000000 in
theorem coffTo_ok (A : Option Addr) (k : Nat) (c : CoffL) (w : World) (h8 : c.name.length = 8) (hk : 8 ≤ k) (hA : RB w A c.name) :
    Calls Try.prog 10 #[.agg (.slice A 8 k :: symTail c).toArray] w fun e w' => e = .returned (.tuple #[.agg (symCells c).toArray, .bool true]) ∧ Below w.heap.size w w' := by
  obtain ⟨nm, x1, x2, x3, x4, x5⟩ := c
  obtain ⟨y0, y1, y2, y3, y4, y5, y6, y7, rfl⟩ := name8 h8
  have e : symCells ⟨[y0, y1, y2, y3, y4, y5, y6, y7], x1, x2, x3, x4, x5⟩ = [.int .u8 (y0.toNat : Int), .int .u8 (y1.toNat : Int), .int .u8 (y2.toNat : Int), .int .u8 (y3.toNat : Int), .int .u8 (y4.toNat : Int), .int .u8 (y5.toNat : Int), .int .u8 (y6.toNat : Int), .int .u8 (y7.toNat : Int), .int .u32 x1, .int .i16 x2, .int .u16 x3, .int .u8 x4, .int .u8 x5] := rfl
  have e2 : symTail ⟨[y0, y1, y2, y3, y4, y5, y6, y7], x1, x2, x3, x4, x5⟩ = [.int .u32 x1, .int .i16 x2, .int .u16 x3, .int .u8 x4, .int .u8 x5] := rfl
  rw [e, e2]
  clear e e2
  obtain ⟨b, o, rfl⟩ := hA.addr (by simp)
  have hbl : b < w.heap.size := hA.lt (by simp)
  have c0 : w.cell? ⟨b, o, none⟩ = some (.int .u8 (y0.toNat : Int)) := hA.get 0 y0 rfl
  have c1 : w.cell? ⟨b, o + 1, none⟩ = some (.int .u8 (y1.toNat : Int)) := hA.get 1 y1 rfl
  have c2 : w.cell? ⟨b, o + 2, none⟩ = some (.int .u8 (y2.toNat : Int)) := hA.get 2 y2 rfl
  have c3 : w.cell? ⟨b, o + 3, none⟩ = some (.int .u8 (y3.toNat : Int)) := hA.get 3 y3 rfl
  have c4 : w.cell? ⟨b, o + 4, none⟩ = some (.int .u8 (y4.toNat : Int)) := hA.get 4 y4 rfl
  have c5 : w.cell? ⟨b, o + 5, none⟩ = some (.int .u8 (y5.toNat : Int)) := hA.get 5 y5 rfl
  have c6 : w.cell? ⟨b, o + 6, none⟩ = some (.int .u8 (y6.toNat : Int)) := hA.get 6 y6 rfl
  have c7 : w.cell? ⟨b, o + 7, none⟩ = some (.int .u8 (y7.toNat : Int)) := hA.get 7 y7 rfl
  have hat : ∀ w, (Instr.arrayAt 47 (.slice (some ⟨b, o, none⟩) 8 k)).run Try.prog w = .ok (.pointer (some ⟨b, o, none⟩)) w := fun w => run_arrayAt w 47 5 8 _ 8 k Try.underlying47 (by omega)
  have hbw : Below w.heap.size w ((w.alloc (.cells #[.slice (some ⟨b, o, none⟩) 8 k, .int .u32 x1, .int .i16 x2, .int .u16 x3, .int .u8 x4, .int .u8 x5] 45)).alloc (.cells #[.int .u8 0, .int .u8 0, .int .u8 0, .int .u8 0, .int .u8 0, .int .u8 0, .int .u8 0, .int .u8 0, .int .u32 0, .int .i16 0, .int .u16 0, .int .u8 0, .int .u8 0] 49)) := ((Below.refl _ _).alloc (Nat.le_refl _) _).alloc (by simp) _
  have hsz : ((w.alloc (.cells #[.slice (some ⟨b, o, none⟩) 8 k, .int .u32 x1, .int .i16 x2, .int .u16 x3, .int .u8 x4, .int .u8 x5] 45)).alloc (.cells #[.int .u8 0, .int .u8 0, .int .u8 0, .int .u8 0, .int .u8 0, .int .u8 0, .int .u8 0, .int .u8 0, .int .u32 0, .int .i16 0, .int .u16 0, .int .u8 0, .int .u8 0] 49)).heap.size = w.heap.size + 2 := by simp
  have gX := heap_alloc2_old w (.cells #[.slice (some ⟨b, o, none⟩) 8 k, .int .u32 x1, .int .i16 x2, .int .u16 x3, .int .u8 x4, .int .u8 x5] 45) (.cells #[.int .u8 0, .int .u8 0, .int .u8 0, .int .u8 0, .int .u8 0, .int .u8 0, .int .u8 0, .int .u8 0, .int .u32 0, .int .i16 0, .int .u16 0, .int .u8 0, .int .u8 0] 49)
  have gY := heap_alloc2_new w (.cells #[.slice (some ⟨b, o, none⟩) 8 k, .int .u32 x1, .int .i16 x2, .int .u16 x3, .int .u8 x4, .int .u8 x5] 45) (.cells #[.int .u8 0, .int .u8 0, .int .u8 0, .int .u8 0, .int .u8 0, .int .u8 0, .int .u8 0, .int .u8 0, .int .u32 0, .int .i16 0, .int .u16 0, .int .u8 0, .int .u8 0] 49)
  have hne : ¬ b = w.heap.size + 1 := by omega
  have hne2 : ¬ w.heap.size + 1 = b := by omega
  replace c0 := (hbw.cell (p := ⟨b, o, none⟩) hbl).trans c0
  replace c1 := (hbw.cell (p := ⟨b, o + 1, none⟩) hbl).trans c1
  replace c2 := (hbw.cell (p := ⟨b, o + 2, none⟩) hbl).trans c2
  replace c3 := (hbw.cell (p := ⟨b, o + 3, none⟩) hbl).trans c3
  replace c4 := (hbw.cell (p := ⟨b, o + 4, none⟩) hbl).trans c4
  replace c5 := (hbw.cell (p := ⟨b, o + 5, none⟩) hbl).trans c5
  replace c6 := (hbw.cell (p := ⟨b, o + 6, none⟩) hbl).trans c6
  replace c7 := (hbw.cell (p := ⟨b, o + 7, none⟩) hbl).trans c7
  have d0 := cellR gX 0 _ rfl
  have d1 := cellR gX 1 (.int .u32 x1) rfl
  have d2 := cellR gX 2 (.int .i16 x2) rfl
  have d3 := cellR gX 3 (.int .u16 x3) rfl
  have d4 := cellR gX 4 (.int .u8 x4) rfl
  have d5 := cellR gX 5 (.int .u8 x5) rfl
  have r0 := cellR gY 0 (.int .u8 0) rfl
  have f0 := frozen_of_row _ (w.heap.size + 1) 0 _ _ gY
  have r1 := cellR gY 1 (.int .u8 0) rfl
  have f1 := frozen_of_row _ (w.heap.size + 1) 1 _ _ gY
  have r2 := cellR gY 2 (.int .u8 0) rfl
  have f2 := frozen_of_row _ (w.heap.size + 1) 2 _ _ gY
  have r3 := cellR gY 3 (.int .u8 0) rfl
  have f3 := frozen_of_row _ (w.heap.size + 1) 3 _ _ gY
  have r4 := cellR gY 4 (.int .u8 0) rfl
  have f4 := frozen_of_row _ (w.heap.size + 1) 4 _ _ gY
  have r5 := cellR gY 5 (.int .u8 0) rfl
  have f5 := frozen_of_row _ (w.heap.size + 1) 5 _ _ gY
  have r6 := cellR gY 6 (.int .u8 0) rfl
  have f6 := frozen_of_row _ (w.heap.size + 1) 6 _ _ gY
  have r7 := cellR gY 7 (.int .u8 0) rfl
  have f7 := frozen_of_row _ (w.heap.size + 1) 7 _ _ gY
  have r8 := cellR gY 8 (.int .u32 0) rfl
  have f8 := frozen_of_row _ (w.heap.size + 1) 8 _ _ gY
  have r9 := cellR gY 9 (.int .i16 0) rfl
  have f9 := frozen_of_row _ (w.heap.size + 1) 9 _ _ gY
  have r10 := cellR gY 10 (.int .u16 0) rfl
  have f10 := frozen_of_row _ (w.heap.size + 1) 10 _ _ gY
  have r11 := cellR gY 11 (.int .u8 0) rfl
  have f11 := frozen_of_row _ (w.heap.size + 1) 11 _ _ gY
  have r12 := cellR gY 12 (.int .u8 0) rfl
  have f12 := frozen_of_row _ (w.heap.size + 1) 12 _ _ gY
  replace gY := Lib.hid gY
  replace hbw := Lib.hid hbw
  replace hsz := Lib.hid hsz
  clear gX
  clear hA h8
  go_enter Try.func10, Try.ntmps10
  go_wp2_with fail
  generalize ((w.alloc (.cells #[.slice (some ⟨b, o, none⟩) 8 k, .int .u32 x1, .int .i16 x2, .int .u16 x3, .int .u8 x4, .int .u8 x5] 45)).alloc (.cells #[.int .u8 0, .int .u8 0, .int .u8 0, .int .u8 0, .int .u8 0, .int .u8 0, .int .u8 0, .int .u8 0, .int .u32 0, .int .i16 0, .int .u16 0, .int .u8 0, .int .u8 0] 49)) = W2 at *
  go_region_held3 (fun w' => w'.cell? ⟨b, o, none⟩ = some (.int .u8 (y0.toNat : Int)) ∧ w'.cell? ⟨b, o + 1, none⟩ = some (.int .u8 (y1.toNat : Int)) ∧ w'.cell? ⟨b, o + 2, none⟩ = some (.int .u8 (y2.toNat : Int)) ∧ w'.cell? ⟨b, o + 3, none⟩ = some (.int .u8 (y3.toNat : Int)) ∧ w'.cell? ⟨b, o + 4, none⟩ = some (.int .u8 (y4.toNat : Int)) ∧ w'.cell? ⟨b, o + 5, none⟩ = some (.int .u8 (y5.toNat : Int)) ∧ w'.cell? ⟨b, o + 6, none⟩ = some (.int .u8 (y6.toNat : Int)) ∧ w'.cell? ⟨b, o + 7, none⟩ = some (.int .u8 (y7.toNat : Int)) ∧ w'.cell? ⟨w.heap.size, 1, none⟩ = some (.int .u32 x1) ∧ w'.cell? ⟨w.heap.size, 2, none⟩ = some (.int .i16 x2) ∧ w'.cell? ⟨w.heap.size, 3, none⟩ = some (.int .u16 x3) ∧ w'.cell? ⟨w.heap.size, 4, none⟩ = some (.int .u8 x4) ∧ w'.cell? ⟨w.heap.size, 5, none⟩ = some (.int .u8 x5) ∧ w'.cell? ⟨w.heap.size, 0, none⟩ = some (.slice (some ⟨b, o, none⟩) 8 k)) (go_keep) (fail)
  go_wp2_with fail
  exact bodyPost_ret (v := .tuple #[.agg #[.int .u8 (y0.toNat : Int), .int .u8 (y1.toNat : Int), .int .u8 (y2.toNat : Int), .int .u8 (y3.toNat : Int), .int .u8 (y4.toNat : Int), .int .u8 (y5.toNat : Int), .int .u8 (y6.toNat : Int), .int .u8 (y7.toNat : Int), .int .u32 x1, .int .i16 x2, .int .u16 x3, .int .u8 x4, .int .u8 x5], .bool true]) (by simp [results, Try.results10, go_sem, r0, r1, r2, r3, r4, r5, r6, r7, r8, r9, r10, r11, r12]) rfl ⟨rfl, by
    refine Below.drew ?_
    repeat (refine Below.setCell ?_ (by simp) _)
    exact hbw.out⟩

theorem offOf_le (l : List UInt8) (h : l.length = 8) : offOf l ≤ 4294967295 := by
  have h1 := num_lt false (l.drop 4)
  have h2 : (l.drop 4).length = 4 := by simp; omega
  rw [h2] at h1
  simp only [Nat.reducePow] at h1
  unfold offOf
  split <;> omega

set_option maxRecDepth 100000 in
set_option maxHeartbeats 1000000 in
theorem fullName_text (V : Nat) (y0 y1 y2 y3 y4 y5 y6 y7 : UInt8) (x1 x2 x3 x4 x5 : Int) (TV : TypeId) (A : Option Addr) (t : List UInt8) (n c : Nat) (w : World) (hN : Hid (n = t.length)) (hc : n ≤ c) (hb : n ≤ 2147483647) (hT : RB w A t)
    (hV : Hid (w.heap[V]? = some (.cells #[.int .u8 (y0.toNat : Int), .int .u8 (y1.toNat : Int), .int .u8 (y2.toNat : Int), .int .u8 (y3.toNat : Int), .int .u8 (y4.toNat : Int), .int .u8 (y5.toNat : Int), .int .u8 (y6.toNat : Int), .int .u8 (y7.toNat : Int), .int .u32 x1, .int .i16 x2, .int .u16 x3, .int .u8 x4, .int .u8 x5] TV (0, 0)))) (hoff : isOff [y0, y1, y2, y3, y4, y5, y6, y7] = false) :
    Calls Try.prog 20 #[.pointer (some ⟨V, 0, none⟩), .slice A n c] w fun e w' => e = .returned (.tuple #[.string ⟨(text [y0, y1, y2, y3, y4, y5, y6, y7]).toArray⟩, .nilIface]) ∧ Below w.heap.size w w' := by
  have c0 := cellR hV.out 0 (.int .u8 (y0.toNat : Int)) rfl
  have c1 := cellR hV.out 1 (.int .u8 (y1.toNat : Int)) rfl
  have c2 := cellR hV.out 2 (.int .u8 (y2.toNat : Int)) rfl
  have c3 := cellR hV.out 3 (.int .u8 (y3.toNat : Int)) rfl
  have c4 := cellR hV.out 4 (.int .u8 (y4.toNat : Int)) rfl
  have c5 := cellR hV.out 5 (.int .u8 (y5.toNat : Int)) rfl
  have c6 := cellR hV.out 6 (.int .u8 (y6.toNat : Int)) rfl
  have c7 := cellR hV.out 7 (.int .u8 (y7.toNat : Int)) rfl
  have HR : Hid (RB w (some ⟨V, 0, none⟩) [y0, y1, y2, y3, y4, y5, y6, y7]) := Lib.hid (RB.of_mid (pre := []) (post := [.int .u32 x1, .int .i16 x2, .int .u16 x3, .int .u8 x4, .int .u8 x5]) hV.out rfl 0 rfl)
  have H := Lib.hid (isSym_any y0 y1 y2 y3 y4 y5 y6 y7 w)
  rw [hoff] at H
  have hou := offOf_le [y0, y1, y2, y3, y4, y5, y6, y7] rfl
  generalize offOf [y0, y1, y2, y3, y4, y5, y6, y7] = off at *
  clear hV hoff
  go_enter Try.func20, Try.ntmps20
  go_wp2_with fail
  refine H.out.mono ?_
  rintro e w1 ⟨rfl, b1⟩
  have R1 : Hid (RB w1 (some ⟨V, 0, none⟩) [y0, y1, y2, y3, y4, y5, y6, y7]) := Lib.hid (HR.out.later b1)
  replace b1 := Lib.hid b1
  go_wp2_with fail
  refine (cstring_any (some ⟨V, 0, none⟩) [y0, y1, y2, y3, y4, y5, y6, y7] 8 8 rfl (by omega) w1 R1.out).mono ?_
  rintro e w' ⟨rfl, rfl⟩
  go_wp2
  go_ret2
  exact ⟨rfl, b1.out⟩

set_option maxRecDepth 100000 in
set_option maxHeartbeats 1000000 in
theorem fullName_ok (V : Nat) (y0 y1 y2 y3 y4 y5 y6 y7 : UInt8) (x1 x2 x3 x4 x5 : Int) (TV : TypeId) (A : Option Addr) (t : List UInt8) (n c : Nat) (w : World) (hN : Hid (n = t.length)) (hc : n ≤ c) (hb : n ≤ 2147483647) (hT : RB w A t)
    (hV : Hid (w.heap[V]? = some (.cells #[.int .u8 (y0.toNat : Int), .int .u8 (y1.toNat : Int), .int .u8 (y2.toNat : Int), .int .u8 (y3.toNat : Int), .int .u8 (y4.toNat : Int), .int .u8 (y5.toNat : Int), .int .u8 (y6.toNat : Int), .int .u8 (y7.toNat : Int), .int .u32 x1, .int .i16 x2, .int .u16 x3, .int .u8 x4, .int .u8 x5] TV (0, 0)))) (hoff : isOff [y0, y1, y2, y3, y4, y5, y6, y7] = true) (hok : strOk n (offOf [y0, y1, y2, y3, y4, y5, y6, y7]) = true) :
    Calls Try.prog 20 #[.pointer (some ⟨V, 0, none⟩), .slice A n c] w fun e w' => e = .returned (.tuple #[.string ⟨(text (t.drop (offOf [y0, y1, y2, y3, y4, y5, y6, y7] - 4))).toArray⟩, .nilIface]) ∧ Below w.heap.size w w' := by
  have c0 := cellR hV.out 0 (.int .u8 (y0.toNat : Int)) rfl
  have c1 := cellR hV.out 1 (.int .u8 (y1.toNat : Int)) rfl
  have c2 := cellR hV.out 2 (.int .u8 (y2.toNat : Int)) rfl
  have c3 := cellR hV.out 3 (.int .u8 (y3.toNat : Int)) rfl
  have c4 := cellR hV.out 4 (.int .u8 (y4.toNat : Int)) rfl
  have c5 := cellR hV.out 5 (.int .u8 (y5.toNat : Int)) rfl
  have c6 := cellR hV.out 6 (.int .u8 (y6.toNat : Int)) rfl
  have c7 := cellR hV.out 7 (.int .u8 (y7.toNat : Int)) rfl
  have HR : Hid (RB w (some ⟨V, 0, none⟩) [y0, y1, y2, y3, y4, y5, y6, y7]) := Lib.hid (RB.of_mid (pre := []) (post := [.int .u32 x1, .int .i16 x2, .int .u16 x3, .int .u8 x4, .int .u8 x5]) hV.out rfl 0 rfl)
  have H := Lib.hid (isSym_any y0 y1 y2 y3 y4 y5 y6 y7 w)
  rw [hoff] at H
  have hou := offOf_le [y0, y1, y2, y3, y4, y5, y6, y7] rfl
  obtain ⟨h4, hs⟩ := strOk_yes hok
  generalize offOf [y0, y1, y2, y3, y4, y5, y6, y7] = off at *
  clear hV hoff hok
  go_enter Try.func20, Try.ntmps20
  go_wp2_with fail
  refine H.out.mono ?_
  rintro e w1 ⟨rfl, b1⟩
  have T1 := Lib.hid (hT.later b1)
  replace b1 := Lib.hid b1
  go_wp2_with fail
  refine (tableString_ok A t n c off hN.out hc hb h4 hs w1 T1.out).mono ?_
  rintro e w' ⟨rfl, rfl⟩
  go_wp2
  go_ret2
  exact ⟨rfl, b1.out⟩

set_option maxRecDepth 100000 in
set_option maxHeartbeats 1000000 in
theorem fullName_bad (V : Nat) (y0 y1 y2 y3 y4 y5 y6 y7 : UInt8) (x1 x2 x3 x4 x5 : Int) (TV : TypeId) (A : Option Addr) (t : List UInt8) (n c : Nat) (w : World) (hN : Hid (n = t.length)) (hc : n ≤ c) (hb : n ≤ 2147483647) (hT : RB w A t)
    (hV : Hid (w.heap[V]? = some (.cells #[.int .u8 (y0.toNat : Int), .int .u8 (y1.toNat : Int), .int .u8 (y2.toNat : Int), .int .u8 (y3.toNat : Int), .int .u8 (y4.toNat : Int), .int .u8 (y5.toNat : Int), .int .u8 (y6.toNat : Int), .int .u8 (y7.toNat : Int), .int .u32 x1, .int .i16 x2, .int .u16 x3, .int .u8 x4, .int .u8 x5] TV (0, 0)))) (hoff : isOff [y0, y1, y2, y3, y4, y5, y6, y7] = true) (hok : strOk n (offOf [y0, y1, y2, y3, y4, y5, y6, y7]) = false) :
    Calls Try.prog 20 #[.pointer (some ⟨V, 0, none⟩), .slice A n c] w fun e w' => (∃ T v, e = .returned (.tuple #[.string ⟨#[]⟩, .iface T v])) ∧ Below w.heap.size w w' := by
  have c0 := cellR hV.out 0 (.int .u8 (y0.toNat : Int)) rfl
  have c1 := cellR hV.out 1 (.int .u8 (y1.toNat : Int)) rfl
  have c2 := cellR hV.out 2 (.int .u8 (y2.toNat : Int)) rfl
  have c3 := cellR hV.out 3 (.int .u8 (y3.toNat : Int)) rfl
  have c4 := cellR hV.out 4 (.int .u8 (y4.toNat : Int)) rfl
  have c5 := cellR hV.out 5 (.int .u8 (y5.toNat : Int)) rfl
  have c6 := cellR hV.out 6 (.int .u8 (y6.toNat : Int)) rfl
  have c7 := cellR hV.out 7 (.int .u8 (y7.toNat : Int)) rfl
  have HR : Hid (RB w (some ⟨V, 0, none⟩) [y0, y1, y2, y3, y4, y5, y6, y7]) := Lib.hid (RB.of_mid (pre := []) (post := [.int .u32 x1, .int .i16 x2, .int .u16 x3, .int .u8 x4, .int .u8 x5]) hV.out rfl 0 rfl)
  have H := Lib.hid (isSym_any y0 y1 y2 y3 y4 y5 y6 y7 w)
  rw [hoff] at H
  have hou := offOf_le [y0, y1, y2, y3, y4, y5, y6, y7] rfl
  have hbad := strOk_no hok
  generalize offOf [y0, y1, y2, y3, y4, y5, y6, y7] = off at *
  clear hV hoff hok
  go_enter Try.func20, Try.ntmps20
  go_wp2_with fail
  refine H.out.mono ?_
  rintro e w1 ⟨rfl, b1⟩
  replace b1 := Lib.hid b1
  go_wp2_with fail
  refine (tableString_bad A n c off hb hou hbad w1).mono ?_
  rintro e w2 ⟨⟨T, v, rfl⟩, b2⟩
  have b3 := b1.out.trans (b2.mono b1.out.size)
  clear b2
  go_wp2
  go_ret2
  exact ⟨⟨T, v, rfl⟩, b3⟩

theorem below_setRow' {B : Nat} {a w : World} (h : Below B a w) {g : Nat} (hg : B ≤ g) (cs : Array Value) : Below B a (w.setRow g cs) :=
  h.trans ⟨rfl, rfl, rfl, by simp, fun k hk => setRow_other w g k _ (by omega)⟩

/-- The name of a symbol, and whether it has one. -/
def symRes (l t : List UInt8) : List UInt8 × Bool := if isOff l then (strAt t (offOf l), strOk t.length (offOf l)) else (text l, true)

end Go.Proofs.Ytoobkbnhfkfoaaa
