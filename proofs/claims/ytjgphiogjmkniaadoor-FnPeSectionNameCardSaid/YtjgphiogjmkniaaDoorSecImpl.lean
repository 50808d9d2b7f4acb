/-
  The name of a section: the contracts of fullName and of the thin package's function.
-/
import Derived.Test.YtjgphiogjmkniaaDoorSecSpec
import Derived.Test.YtjgphiogjmkniaaDoorAtoi
import Derived.Test.YtjgphiogjmkniaaDoorRow
import Derived.Lib.AtoiErrMem
import Derived.Deep.WholeRow
namespace Go.Proofs.YtjgphiogjmkniaaDoor
set_option linter.unusedVariables false
set_option linter.unusedSimpArgs false
open Go Go.RowKit
attribute [local go_sem ↓] Go.wp_at_zero Go.wp_at_succ

theorem cellR {w : World} {g : Nat} {l : List Value} {T : TypeId} {fr : Nat × Nat} (h : w.heap[g]? = some (.cells l.toArray T fr)) (i : Nat) (v : Value) (hv : l[i]? = some v) : w.cell? ⟨g, i, none⟩ = some v := by
  simp [World.cell?, h, hv]

/-- The listed variable of a number's syntax holds an error. -/
def ErrH (w : World) : Prop := ∃ te pe, w.cell? ⟨1, 0, none⟩ = some (.iface te pe)
theorem ErrH.later {w w' : World} (h : ErrH w) (hb : Below w.heap.size w w') : ErrH w' := by
  obtain ⟨te, pe, h⟩ := h
  exact ⟨te, pe, (hb.cell (p := ⟨1, 0, none⟩) (World.block_lt_of_cell? w _ h)).trans h⟩

/-- A text behind its first byte. -/
theorem text_tail (y : UInt8) (r : List UInt8) (h : y ≠ 0) : text (y :: r) = y :: text r := by
  unfold text
  rw [List.takeWhile_cons]
  simp [h]

/-- Atoi, whatever stands there: its value or an error. -/
def AtoiPost (o : Option Int) (w : World) (e : Ending) (w' : World) : Prop :=
  Below w.heap.size w w' ∧ ((∃ n, o = some n ∧ e = .returned (.tuple #[.int .i64 n, .nilIface])) ∨ (o = none ∧ ∃ T v, e = .returned (.tuple #[.int .i64 0, .iface T v])))
theorem atoi_any (s : ByteArray) (hl : s.size ≤ 18) (w : World) (hE : ErrH w) : Calls Tryd.prog 12 #[.string s] w (AtoiPost (Lib.atoi s.data.toList) w) := by
  cases h : Lib.atoi s.data.toList with
  | some n =>
    refine (Tryd.strconv_Atoi s n hl h w).mono ?_
    rintro e w' ⟨rfl, t, rfl⟩
    exact ⟨Lib.bytesWorld_below w _ _, .inl ⟨n, rfl, rfl⟩⟩
  | none =>
    obtain ⟨te, pe, hv⟩ := hE
    refine (Tryd.strconv_Atoi_err s hl h (.iface te pe) w hv (.inr ⟨te, pe, rfl⟩)).mono ?_
    rintro e w' ⟨N, rfl, -, -, hb⟩
    exact ⟨hb, .inr ⟨rfl, _, _, rfl⟩⟩

/-- What fullName gives back: a text, or an error. -/
def NamePost (r : Option (List UInt8)) (w : World) (e : Ending) (w' : World) : Prop :=
  Below w.heap.size w w' ∧ ((∃ s, r = some s ∧ e = .returned (.tuple #[.string ⟨s.toArray⟩, .nilIface])) ∨ (r = none ∧ ∃ T v, e = .returned (.tuple #[.string ⟨#[]⟩, .iface T v])))
/-- The name of a section, as the package reckons it. -/
def secName (l t : List UInt8) : Option (List UInt8) :=
  if l.head? ≠ some 47 then some (text l) else
  match Lib.atoi (text (l.drop 1)) with
  | none => none
  | some i => if strOk t.length (i % 4294967296).toNat then some (strAt t (i % 4294967296).toNat) else none

set_option maxRecDepth 100000 in
set_option maxHeartbeats 1000000 in
theorem fullName_any (V : Nat) (y0 y1 y2 y3 y4 y5 y6 y7 : UInt8) (post : List Value) (TV : TypeId) (A : Option Addr) (t : List UInt8) (n c : Nat) (w : World) (hN : Hid (n = t.length)) (hc : n ≤ c) (hb : n ≤ 2147483647) (hT : RB w A t) (hE : Hid (ErrH w))
    (hV : Hid (w.heap[V]? = some (.cells (([y0, y1, y2, y3, y4, y5, y6, y7].map bv) ++ post).toArray TV (0, 0)))) :
    Calls Tryd.prog 10 #[.pointer (some ⟨V, 0, none⟩), .slice A n c] w (NamePost (secName [y0, y1, y2, y3, y4, y5, y6, y7] t) w) := by
  have c0 := cellR hV.out 0 (.int .u8 (y0.toNat : Int)) rfl
  have HR : Hid (RB w (some ⟨V, 0, none⟩) [y0, y1, y2, y3, y4, y5, y6, y7]) := Lib.hid (RB.of_mid (pre := []) (post := post) hV.out rfl 0 rfl)
  have HR1 : Hid (RB w (some ⟨V, 1, none⟩) [y1, y2, y3, y4, y5, y6, y7]) := Lib.hid (RB.of_mid (pre := [bv y0]) (post := post) hV.out rfl 1 rfl)
  clear hV
  by_cases h47 : y0 = 47
  · have b0 : ((y0.toNat : Int) == 47) = true := by rw [h47]; rfl
    have b0' : ((y0.toNat : Int) != 47) = false := by rw [bne, b0]; rfl
    have hsec : Hid (secName [y0, y1, y2, y3, y4, y5, y6, y7] t = match Lib.atoi (text [y1, y2, y3, y4, y5, y6, y7]) with
      | none => none
      | some i => if strOk t.length (i % 4294967296).toNat then some (strAt t (i % 4294967296).toNat) else none) := Lib.hid (by unfold secName; rw [if_neg (by simp [h47])]; rfl)
    have htl : Hid ((text [y1, y2, y3, y4, y5, y6, y7]).length ≤ 7) := Lib.hid (text_le _)
    have CS := Lib.hid (cstring_any (some ⟨V, 1, none⟩) [y1, y2, y3, y4, y5, y6, y7] 7 7 rfl (by omega) w HR1.out)
    obtain ⟨S, eS⟩ : ∃ S, text [y1, y2, y3, y4, y5, y6, y7] = S := ⟨_, rfl⟩
    rw [eS] at hsec htl CS
    have AT := Lib.hid (atoi_any ⟨S.toArray⟩ (by have := htl.out; show S.toArray.size ≤ 18; simp; omega) w hE.out)
    clear eS h47 HR HR1
    go_enter Tryd.func10, Tryd.ntmps10
    go_wp2_with fail
    refine CS.out.mono ?_
    rintro e w' ⟨rfl, rfl⟩
    go_wp2_with fail
    refine AT.out.mono ?_
    rintro e w1 ⟨b1, ⟨i, hi, rfl⟩ | ⟨hi, T, v, rfl⟩⟩
    · rw [show Lib.atoi S = some i from hi] at hsec
      have T1 := Lib.hid (hT.later b1)
      have hle : (i % 4294967296).toNat ≤ 4294967295 := by omega
      have hwr : IntKind.u32.wrap i = (((i % 4294967296).toNat : Nat) : Int) := by rw [IntKind.wrap_u32]; omega
      have hsec' := hsec.out
      simp only at hsec'
      obtain ⟨m, hm⟩ : ∃ m, (i % 4294967296).toNat = m := ⟨_, rfl⟩
      rw [hm] at hsec' hle hwr
      clear hm hi hsec
      cases hok : strOk n m with
      | true =>
        obtain ⟨h4, hs⟩ := strOk_yes hok
        have R : Hid (secName [y0, y1, y2, y3, y4, y5, y6, y7] t = some (text (t.drop (m - 4)))) := Lib.hid (by
          rw [hsec']
          have hok' := hok
          rw [hN.out] at hok'
          simp [hok', strAt])
        replace b1 := Lib.hid b1
        have CALL := Lib.hid (tableString_ok A t n c m hN.out hc hb h4 hs w1 T1.out)
        clear hok hsec' h4 hs
        go_wp2_with fail
        refine CALL.out.mono ?_
        rintro e w' ⟨rfl, rfl⟩
        go_wp2
        go_ret2
        exact ⟨b1.out, .inl ⟨_, R.out, rfl⟩⟩
      | false =>
        have hbad := strOk_no hok
        have R : Hid (secName [y0, y1, y2, y3, y4, y5, y6, y7] t = none) := Lib.hid (by
          rw [hsec']
          rw [hN.out] at hok
          simp [hok])
        replace b1 := Lib.hid b1
        have CALL := Lib.hid (tableString_bad A n c m hb hle hbad w1)
        clear hok hsec' hbad
        go_wp2_with fail
        refine CALL.out.mono ?_
        rintro e w2 ⟨⟨T, v, rfl⟩, b2⟩
        have b3 := Lib.hid (b1.out.trans (b2.mono b1.out.size))
        clear b2
        go_wp2
        go_ret2
        exact ⟨b3.out, .inr ⟨R.out, T, v, rfl⟩⟩
    · rw [show Lib.atoi S = none from hi] at hsec
      have hsec' := Lib.hid (show secName [y0, y1, y2, y3, y4, y5, y6, y7] t = none from hsec.out)
      replace b1 := Lib.hid b1
      clear hi hsec
      go_wp2
      go_ret2
      exact ⟨b1.out, .inr ⟨hsec'.out, T, v, rfl⟩⟩
  · have b0 : ((y0.toNat : Int) == 47) = false := by
      rw [beq_eq_false_iff_ne]
      intro e
      exact h47 (UInt8.toNat_inj.1 (by show y0.toNat = 47; omega))
    have b0' : ((y0.toNat : Int) != 47) = true := by rw [bne, b0]; rfl
    have hsec : Hid (secName [y0, y1, y2, y3, y4, y5, y6, y7] t = some (text [y0, y1, y2, y3, y4, y5, y6, y7])) := Lib.hid (by unfold secName; rw [if_pos (by simpa using h47)])
    have CS := Lib.hid (cstring_any (some ⟨V, 0, none⟩) [y0, y1, y2, y3, y4, y5, y6, y7] 8 8 rfl (by omega) w HR.out)
    clear h47 HR HR1
    go_enter Tryd.func10, Tryd.ntmps10
    go_wp2_with fail
    refine CS.out.mono ?_
    rintro e w' ⟨rfl, rfl⟩
    go_wp2
    go_ret2
    exact ⟨Below.refl _ _, .inl ⟨_, hsec.out, rfl⟩⟩
end Go.Proofs.YtjgphiogjmkniaaDoor
