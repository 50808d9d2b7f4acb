/-
  The name of a symbol: the contracts of coffTo, FullName.
-/
import Derived.Test.YtbpebngjpecncaaGreatDoorPeSym
import Derived.Test.YtbpebngjpecncaaGreatDoorName
import Derived.Test.YtbpebngjpecncaaGreatDoorCoffRec
import Derived.Test.YtbpebngjpecncaaGreatDoorRow
import Derived.Deep.WholeRow
namespace Go.Proofs.YtbpebngjpecncaaGreatDoor
set_option linter.unusedVariables false
set_option linter.unusedSimpArgs false
set_option maxRecDepth 100000
open Go Go.RowKit
attribute [local go_sem ↓] Go.wp_at_zero Go.wp_at_succ

theorem cellR {w : World} {g : Nat} {l : List Value} {T : TypeId} {fr : Nat × Nat} (h : w.heap[g]? = some (.cells l.toArray T fr)) (i : Nat) (v : Value) (hv : l[i]? = some v) : w.cell? ⟨g, i, none⟩ = some v := by
  simp [World.cell?, h, hv]

theorem offOf_le (l : List UInt8) (h : l.length = 8) : offOf l ≤ 4294967295 := by
  have h1 := num_lt false (l.drop 4)
  have h2 : (l.drop 4).length = 4 := by simp; omega
  rw [h2] at h1
  simp only [Nat.reducePow] at h1
  unfold offOf
  split <;> omega

set_option maxRecDepth 100000 in
set_option maxHeartbeats 1000000 in
theorem fullName_text (V : Nat) (y0 y1 y2 y3 y4 y5 y6 y7 : UInt8) (x1 x2 x3 x4 x5 : Int) (TV : TypeId) (A : Option Addr) (t : List UInt8) (n c : Nat) (w : World) (hN : Hid (n = t.length)) (hc : n ≤ c) (hb : n ≤ 2147483647) (hT : RB w A t)
    (hV : Hid (w.heap[V]? = some (.cells #[.int .u8 (y0.toNat : Int), .int .u8 (y1.toNat : Int), .int .u8 (y2.toNat : Int), .int .u8 (y3.toNat : Int), .int .u8 (y4.toNat : Int), .int .u8 (y5.toNat : Int), .int .u8 (y6.toNat : Int), .int .u8 (y7.toNat : Int), .int .u32 x1, .int .i16 x2, .int .u16 x3, .int .u8 x4, .int .u8 x5] TV (0, 0)))) (hoff : isOff [y0, y1, y2, y3, y4, y5, y6, y7] = false) :
    Calls Tryz.prog 50 #[.pointer (some ⟨V, 0, none⟩), .slice A n c] w fun e w' => e = .returned (.tuple #[.string ⟨(text [y0, y1, y2, y3, y4, y5, y6, y7]).toArray⟩, .nilIface]) ∧ Below w.heap.size w w' := by
  have c0 := cellR hV.out 0 (.int .u8 (y0.toNat : Int)) rfl
  have c1 := cellR hV.out 1 (.int .u8 (y1.toNat : Int)) rfl
  have c2 := cellR hV.out 2 (.int .u8 (y2.toNat : Int)) rfl
  have c3 := cellR hV.out 3 (.int .u8 (y3.toNat : Int)) rfl
  have c4 := cellR hV.out 4 (.int .u8 (y4.toNat : Int)) rfl
  have c5 := cellR hV.out 5 (.int .u8 (y5.toNat : Int)) rfl
  have c6 := cellR hV.out 6 (.int .u8 (y6.toNat : Int)) rfl
  have c7 := cellR hV.out 7 (.int .u8 (y7.toNat : Int)) rfl
  have HR : Hid (RB w (some ⟨V, 0, none⟩) [y0, y1, y2, y3, y4, y5, y6, y7]) := Lib.hid (RB.of_mid (pre := []) (post := [.int .u32 x1, .int .i16 x2, .int .u16 x3, .int .u8 x4, .int .u8 x5]) hV.out rfl 0 rfl)
  have H := Lib.hid (isSym_any y0 y1 y2 y3 y4 y5 y6 y7 w)
  rw [hoff] at H
  have hou := offOf_le [y0, y1, y2, y3, y4, y5, y6, y7] rfl
  generalize offOf [y0, y1, y2, y3, y4, y5, y6, y7] = off at *
  clear hV hoff
  go_enter Tryz.func50, Tryz.ntmps50
  go_wp2_with fail
  refine H.out.mono ?_
  rintro e w1 ⟨rfl, b1⟩
  have R1 : Hid (RB w1 (some ⟨V, 0, none⟩) [y0, y1, y2, y3, y4, y5, y6, y7]) := Lib.hid (HR.out.later b1)
  replace b1 := Lib.hid b1
  go_wp2_with fail
  refine (cstring_any (some ⟨V, 0, none⟩) [y0, y1, y2, y3, y4, y5, y6, y7] 8 8 rfl (by omega) w1 R1.out).mono ?_
  rintro e w' ⟨rfl, rfl⟩
  go_wp2
  go_ret2
  exact ⟨rfl, b1.out⟩

set_option maxRecDepth 100000 in
set_option maxHeartbeats 1000000 in
theorem fullName_ok (V : Nat) (y0 y1 y2 y3 y4 y5 y6 y7 : UInt8) (x1 x2 x3 x4 x5 : Int) (TV : TypeId) (A : Option Addr) (t : List UInt8) (n c : Nat) (w : World) (hN : Hid (n = t.length)) (hc : n ≤ c) (hb : n ≤ 2147483647) (hT : RB w A t)
    (hV : Hid (w.heap[V]? = some (.cells #[.int .u8 (y0.toNat : Int), .int .u8 (y1.toNat : Int), .int .u8 (y2.toNat : Int), .int .u8 (y3.toNat : Int), .int .u8 (y4.toNat : Int), .int .u8 (y5.toNat : Int), .int .u8 (y6.toNat : Int), .int .u8 (y7.toNat : Int), .int .u32 x1, .int .i16 x2, .int .u16 x3, .int .u8 x4, .int .u8 x5] TV (0, 0)))) (hoff : isOff [y0, y1, y2, y3, y4, y5, y6, y7] = true) (hok : strOk n (offOf [y0, y1, y2, y3, y4, y5, y6, y7]) = true) :
    Calls Tryz.prog 50 #[.pointer (some ⟨V, 0, none⟩), .slice A n c] w fun e w' => e = .returned (.tuple #[.string ⟨(text (t.drop (offOf [y0, y1, y2, y3, y4, y5, y6, y7] - 4))).toArray⟩, .nilIface]) ∧ Below w.heap.size w w' := by
  have c0 := cellR hV.out 0 (.int .u8 (y0.toNat : Int)) rfl
  have c1 := cellR hV.out 1 (.int .u8 (y1.toNat : Int)) rfl
  have c2 := cellR hV.out 2 (.int .u8 (y2.toNat : Int)) rfl
  have c3 := cellR hV.out 3 (.int .u8 (y3.toNat : Int)) rfl
  have c4 := cellR hV.out 4 (.int .u8 (y4.toNat : Int)) rfl
  have c5 := cellR hV.out 5 (.int .u8 (y5.toNat : Int)) rfl
  have c6 := cellR hV.out 6 (.int .u8 (y6.toNat : Int)) rfl
  have c7 := cellR hV.out 7 (.int .u8 (y7.toNat : Int)) rfl
  have HR : Hid (RB w (some ⟨V, 0, none⟩) [y0, y1, y2, y3, y4, y5, y6, y7]) := Lib.hid (RB.of_mid (pre := []) (post := [.int .u32 x1, .int .i16 x2, .int .u16 x3, .int .u8 x4, .int .u8 x5]) hV.out rfl 0 rfl)
  have H := Lib.hid (isSym_any y0 y1 y2 y3 y4 y5 y6 y7 w)
  rw [hoff] at H
  have hou := offOf_le [y0, y1, y2, y3, y4, y5, y6, y7] rfl
  obtain ⟨h4, hs⟩ := strOk_yes hok
  generalize offOf [y0, y1, y2, y3, y4, y5, y6, y7] = off at *
  clear hV hoff hok
  go_enter Tryz.func50, Tryz.ntmps50
  go_wp2_with fail
  refine H.out.mono ?_
  rintro e w1 ⟨rfl, b1⟩
  have T1 := Lib.hid (hT.later b1)
  replace b1 := Lib.hid b1
  go_wp2_with fail
  refine (tableString_ok A t n c off hN.out hc hb h4 hs w1 T1.out).mono ?_
  rintro e w' ⟨rfl, rfl⟩
  go_wp2
  go_ret2
  exact ⟨rfl, b1.out⟩

set_option maxRecDepth 100000 in
set_option maxHeartbeats 1000000 in
theorem fullName_bad (V : Nat) (y0 y1 y2 y3 y4 y5 y6 y7 : UInt8) (x1 x2 x3 x4 x5 : Int) (TV : TypeId) (A : Option Addr) (t : List UInt8) (n c : Nat) (w : World) (hN : Hid (n = t.length)) (hc : n ≤ c) (hb : n ≤ 2147483647) (hT : RB w A t)
    (hV : Hid (w.heap[V]? = some (.cells #[.int .u8 (y0.toNat : Int), .int .u8 (y1.toNat : Int), .int .u8 (y2.toNat : Int), .int .u8 (y3.toNat : Int), .int .u8 (y4.toNat : Int), .int .u8 (y5.toNat : Int), .int .u8 (y6.toNat : Int), .int .u8 (y7.toNat : Int), .int .u32 x1, .int .i16 x2, .int .u16 x3, .int .u8 x4, .int .u8 x5] TV (0, 0)))) (hoff : isOff [y0, y1, y2, y3, y4, y5, y6, y7] = true) (hok : strOk n (offOf [y0, y1, y2, y3, y4, y5, y6, y7]) = false) :
    Calls Tryz.prog 50 #[.pointer (some ⟨V, 0, none⟩), .slice A n c] w fun e w' => (∃ T v, e = .returned (.tuple #[.string ⟨#[]⟩, .iface T v])) ∧ Below w.heap.size w w' := by
  have c0 := cellR hV.out 0 (.int .u8 (y0.toNat : Int)) rfl
  have c1 := cellR hV.out 1 (.int .u8 (y1.toNat : Int)) rfl
  have c2 := cellR hV.out 2 (.int .u8 (y2.toNat : Int)) rfl
  have c3 := cellR hV.out 3 (.int .u8 (y3.toNat : Int)) rfl
  have c4 := cellR hV.out 4 (.int .u8 (y4.toNat : Int)) rfl
  have c5 := cellR hV.out 5 (.int .u8 (y5.toNat : Int)) rfl
  have c6 := cellR hV.out 6 (.int .u8 (y6.toNat : Int)) rfl
  have c7 := cellR hV.out 7 (.int .u8 (y7.toNat : Int)) rfl
  have HR : Hid (RB w (some ⟨V, 0, none⟩) [y0, y1, y2, y3, y4, y5, y6, y7]) := Lib.hid (RB.of_mid (pre := []) (post := [.int .u32 x1, .int .i16 x2, .int .u16 x3, .int .u8 x4, .int .u8 x5]) hV.out rfl 0 rfl)
  have H := Lib.hid (isSym_any y0 y1 y2 y3 y4 y5 y6 y7 w)
  rw [hoff] at H
  have hou := offOf_le [y0, y1, y2, y3, y4, y5, y6, y7] rfl
  have hbad := strOk_no hok
  generalize offOf [y0, y1, y2, y3, y4, y5, y6, y7] = off at *
  clear hV hoff hok
  go_enter Tryz.func50, Tryz.ntmps50
  go_wp2_with fail
  refine H.out.mono ?_
  rintro e w1 ⟨rfl, b1⟩
  replace b1 := Lib.hid b1
  go_wp2_with fail
  refine (tableString_bad A n c off hb hou hbad w1).mono ?_
  rintro e w2 ⟨⟨T, v, rfl⟩, b2⟩
  have b3 := b1.out.trans (b2.mono b1.out.size)
  clear b2
  go_wp2
  go_ret2
  exact ⟨⟨T, v, rfl⟩, b3⟩

theorem below_setRow' {B : Nat} {a w : World} (h : Below B a w) {g : Nat} (hg : B ≤ g) (cs : Array Value) : Below B a (w.setRow g cs) :=
  h.trans ⟨rfl, rfl, rfl, by simp, fun k hk => setRow_other w g k _ (by omega)⟩

/-- The name of a symbol, and whether it has one. -/
def symRes (l t : List UInt8) : List UInt8 × Bool := if isOff l then (strAt t (offOf l), strOk t.length (offOf l)) else (text l, true)

end Go.Proofs.YtbpebngjpecncaaGreatDoor
