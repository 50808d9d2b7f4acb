/-
  The reference's name of a section.
-/
import Derived.Test.YtjgphiogjmkniaaDoorSecName
namespace Go.Proofs.YtjgphiogjmkniaaDoor
set_option linter.unusedVariables false
set_option linter.unusedSimpArgs false
open Go Go.RowKit
attribute [local go_sem ↓] Go.wp_at_zero Go.wp_at_succ

theorem ret_si {a b : ByteArray} {x y : Int} (h : a = b) (hx : x = y) : Ending.returned (.tuple #[.string a, .int .i64 x]) = .returned (.tuple #[.string b, .int .i64 y]) := by rw [h, hx]
theorem byte_bne (s : ByteArray) (i : Nat) (hi : i < s.size) (c : UInt8) (h : s.data.toList[i]? ≠ some c) : (((s[i]).toNat : Int) == (c.toNat : Int)) = false := by
  have hl : i < s.data.toList.length := by simpa using hi
  rw [List.getElem?_eq_getElem hl] at h
  rw [beq_eq_false_iff_ne]
  intro e
  apply h
  have e2 : (s[i]).toNat = c.toNat := by omega
  have e3 : s.data.toList[i] = s[i] := rfl
  rw [e3, UInt8.toNat_inj.1 e2]
theorem byte_beq (s : ByteArray) (i : Nat) (hi : i < s.size) (c : UInt8) (h : s.data.toList[i]? = some c) : (((s[i]).toNat : Int) == (c.toNat : Int)) = true := by
  have hl : i < s.data.toList.length := by simpa using hi
  rw [List.getElem?_eq_getElem hl] at h
  have e3 : s.data.toList[i] = s[i] := rfl
  rw [e3] at h
  rw [Option.some.inj h]
  simp

theorem take_all {T : List UInt8} {j : Nat} (h : T.length = j + 1) : (T.drop 1).take j = T.drop 1 := List.take_of_length_le (by simp; omega)

set_option maxRecDepth 100000 in
set_option maxHeartbeats 2000000 in
theorem specSec_figs (N : Option Addr) (k : Nat) (A : Option Addr) (t T : List UInt8) (n c : Nat) (w : World) (s : ByteArray)
    (tx : Hid (Calls Tryd.prog 6 #[.slice N 8 k] w fun e w' => e = .returned (.string s) ∧ w = w'))
    (ST : Hid (∀ m : Nat, m ≤ 4294967295 → Calls Tryd.prog 7 #[.slice A n c, .int .u32 m] w fun e w' => e = .returned (.tuple #[.string ⟨(strAt t m).toArray⟩, .bool (strOk n m)]) ∧ w = w'))
    (hN : Hid (n = t.length)) (htl : s.size ≤ 8) (hsl : Hid (s.data.toList = T)) (hss : Hid (s.size = T.length)) (hT0 : 0 < s.size) (hh : Hid (T.head? = some 47)) (b0 : (((s[0]).toNat : Int) == 47) = true) (b0' : (((s[0]).toNat : Int) != 47) = false)
    (h1 : Hid (¬ (T[1]? = some 43 ∨ T[1]? = some 45))) :
    Calls Tryd.prog 4 #[.slice N 8 k, .slice A n c] w fun e w' => e = .returned (.tuple #[.string ⟨(secT T t).1.toArray⟩, .int .i64 ((secT T t).2 : Nat)]) ∧ w = w' := by
  have n0 : ((s.size : Int) == 0) = false := by rw [beq_eq_false_iff_ne]; omega
  have hbad : Hid (Lib.decFrom 0 (T.drop 1) = none → secT T t = ([], 1)) := Lib.hid (fun h => secT_bad hh.out h1.out h)
  have hshort : Hid (∀ m, Lib.decFrom 0 (T.drop 1) = some m → (T.length = 1 ∨ strOk t.length m = false) → secT T t = ([], 1)) := Lib.hid (fun m h h3 => secT_short hh.out h1.out m h h3)
  have hgood : Hid (∀ m, Lib.decFrom 0 (T.drop 1) = some m → T.length ≠ 1 → strOk t.length m = true → secT T t = (strAt t m, 0)) := Lib.hid (fun m h h3 h4 => secT_good hh.out h1.out m h h3 h4)
  have key : Hid (∀ (hs : Hid (∀ (h : 1 < s.size), (((s[1]).toNat : Int) == 43) = false ∧ (((s[1]).toNat : Int) == 45) = false)), True) := Lib.hid (fun _ => trivial)
  have b1 : Hid (∀ (h : 1 < s.size), (((s[1]).toNat : Int) == 43) = false) := Lib.hid (fun h => byte_bne s 1 h 43 (by rw [hsl.out]; exact fun e => h1.out (.inl e)))
  have b2 : Hid (∀ (h : 1 < s.size), (((s[1]).toNat : Int) == 45) = false) := Lib.hid (fun h => byte_bne s 1 h 45 (by rw [hsl.out]; exact fun e => h1.out (.inr e)))
  clear key hh h1
  have START : Hid (Lib.decFrom 0 ((T.drop 1).take (1 - 1)) = some 0) := Lib.hid rfl
  by_cases hs1 : 1 < s.size
  · have c1 := b1.out hs1
    have c2 := b2.out hs1
    have hs1' : (1 : Int) < (s.size : Int) := by omega
    have hne1 : ((s.size : Int) == 1) = false := by rw [beq_eq_false_iff_ne]; omega
    go_enter Tryd.func4, Tryd.ntmps4
    go_wp2_with fail
    refine tx.out.mono ?_
    rintro e w' ⟨rfl, rfl⟩
    go_wp2
    go_loop [7, 8] (fun v i => ∃ j m : Nat, 1 ≤ j ∧ j ≤ s.size ∧ v = .int .u32 m ∧ i = .int .i64 j ∧ Hid (Lib.decFrom 0 ((T.drop 1).take (j - 1)) = some m)) (fun _ i => s.size - (intOf i).toNat)
    case atStart => exact ⟨1, 0, Nat.le_refl _, by omega, rfl, rfl, START⟩
    case round =>
      obtain ⟨j, m, hj1, hj, rfl, rfl, hd⟩ := hrel
      by_cases hlt : j < s.size
      · have hjl : j - 1 + 1 < T.length := by have := hss.out; omega
        have hlt' : (j : Int) < (s.size : Int) := by omega
        have hj0 : (0 : Int) ≤ (j : Int) := by omega
        have hm6 : m < 1000000 := figs_lt6 hd.out (by have := hss.out; simp; omega)
        have hTj : T[j - 1 + 1]'hjl = s[j] := by
          have e1 : j - 1 + 1 = j := by omega
          have : T[j - 1 + 1]? = some (s[j]) := by
            rw [e1, ← hsl.out, List.getElem?_eq_getElem (by simpa using hlt)]
            rfl
          exact Option.some.inj ((List.getElem?_eq_getElem hjl).symm.trans this)
        by_cases hdig : 48 ≤ (s[j]).toNat ∧ (s[j]).toNat ≤ 57
        · obtain ⟨d1, d2⟩ := hdig
          have hnext : Hid (Lib.decFrom 0 ((T.drop 1).take (j + 1 - 1)) = some (m * 10 + ((s[j]).toNat - 48))) := Lib.hid (by
            have := figs_step hd.out hjl (d := (s[j]).toNat - 48) (by rw [hTj]; exact digit_yes d1 d2)
            rwa [show j + 1 - 1 = j - 1 + 1 by omega])
          clear hTj hjl hd
          have e1 : ¬ ((s[j]).toNat : Int) < 48 := by omega
          have e2 : ¬ (57 : Int) < ((s[j]).toNat : Int) := by omega
          go_wp2
          go_round
          case rel => exact ⟨j + 1, m * 10 + ((s[j]).toNat - 48), by omega, by omega, by go_num, by go_num, hnext⟩
          case measure => simp [intOf]; omega
        · have hno : Lib.digitVal (T[j - 1 + 1]'hjl) = none := by rw [hTj]; exact digit_no (by omega)
          have R := Lib.hid (hbad.out (figs_none hjl hno))
          clear hTj hno hjl hd
          by_cases e1 : ((s[j]).toNat : Int) < 48
          · go_wp2
            go_ret2
            exact ⟨by rw [R.out]; rfl, rfl⟩
          · have e2 : (57 : Int) < ((s[j]).toNat : Int) := by omega
            go_wp2
            go_ret2
            exact ⟨by rw [R.out]; rfl, rfl⟩
      · obtain rfl : j = s.size := by omega
        have hd' : Hid (Lib.decFrom 0 (T.drop 1) = some m) := Lib.hid (by
          have := hd.out
          rwa [take_all (by have := hss.out; omega)] at this)
        have hm7 : m < 10000000 := figs_lt hd'.out (by have := hss.out; simp; omega)
        have hlt' : ¬ ((s.size : Int) < (s.size : Int)) := by omega
        have CALL := Lib.hid (ST.out m (by omega))
        cases hok : strOk n m with
        | false =>
          rw [hok] at CALL
          have R := Lib.hid (hshort.out m hd'.out (.inr (by rw [← hN.out]; exact hok)))
          clear hok hd hd' hlt
          go_wp2_with fail
          refine CALL.out.mono ?_
          rintro e w' ⟨rfl, rfl⟩
          go_wp2
          go_ret2
          exact ⟨by rw [R.out]; rfl, rfl⟩
        | true =>
          rw [hok] at CALL
          have R := Lib.hid (hgood.out m hd'.out (by have := hss.out; omega) (by rw [← hN.out]; exact hok))
          clear hok hd hd' hlt
          go_wp2_with fail
          refine CALL.out.mono ?_
          rintro e w' ⟨rfl, rfl⟩
          go_wp2
          go_ret2
          exact ⟨by rw [R.out]; rfl, rfl⟩
  · have hs1' : ¬ (1 : Int) < (s.size : Int) := by omega
    have hse : ((s.size : Int) == 1) = true := by rw [beq_iff_eq]; omega
    have CALL := Lib.hid (ST.out 0 (by omega))
    have R := Lib.hid (hshort.out 0 (by
      have : T.drop 1 = [] := List.drop_eq_nil_of_le (by have := hss.out; omega)
      rw [this]; rfl) (.inl (by have := hss.out; omega)))
    have hlast : ∀ j : Nat, 1 ≤ j → j ≤ s.size → ¬ (j : Int) < (s.size : Int) := fun j h1 h2 => by omega
    have HL := Lib.hid hlast
    clear hlast
    go_enter Tryd.func4, Tryd.ntmps4
    go_wp2_with fail
    refine tx.out.mono ?_
    rintro e w' ⟨rfl, rfl⟩
    go_wp2
    refine wp_loop_rounds 1 ?_
    rw [rounds_succ]
    go_wp2_with fail
    refine CALL.out.mono ?_
    rintro e w' ⟨rfl, rfl⟩
    go_wp2
    go_ret2
    exact ⟨by rw [R.out]; rfl, rfl⟩

set_option maxRecDepth 100000 in
set_option maxHeartbeats 2000000 in
theorem specSec (N : Option Addr) (k : Nat) (l : List UInt8) (A : Option Addr) (t : List UInt8) (n c : Nat) (w : World) (h8 : 8 = l.length) (hk : 8 ≤ k) (hNm : RB w N l) (hN : Hid (n = t.length)) (hc : n ≤ c) (hb : n ≤ 2147483647) (hT : RB w A t) :
    Calls Tryd.prog 4 #[.slice N 8 k, .slice A n c] w fun e w' => e = .returned (.tuple #[.string ⟨(secT (text l) t).1.toArray⟩, .int .i64 ((secT (text l) t).2 : Nat)]) ∧ w = w' := by
  have tx := Lib.hid (specText_any N l 8 k h8 hk (by omega) w hNm)
  have ST := Lib.hid (fun (m : Nat) (hm : m ≤ 4294967295) => specString A t n c m hN.out hc hb hm w hT)
  have htl : (text l).length ≤ 8 := by have := text_le l; omega
  obtain ⟨T, eT⟩ : ∃ T, text l = T := ⟨_, rfl⟩
  rw [eT] at tx htl
  rw [eT]
  clear eT hNm hT h8
  obtain ⟨s, es⟩ : ∃ s : ByteArray, s = ⟨T.toArray⟩ := ⟨_, rfl⟩
  rw [← es] at tx
  have hsl : s.data.toList = T := by rw [es]
  have hss : s.size = T.length := by rw [es]; simp [ByteArray.size]
  by_cases hh : T.head? = some 47
  · have hT0 : 0 < s.size := by
      cases T with
      | nil => simp at hh
      | cons x r => rw [hss]; simp
    have b0 : (((s[0]).toNat : Int) == 47) = true := byte_beq s 0 hT0 47 (by rw [hsl, ← List.head?_eq_getElem?]; exact hh)
    have b0' : (((s[0]).toNat : Int) != 47) = false := by rw [bne, b0]; rfl
    have n0 : ((s.size : Int) == 0) = false := by rw [beq_eq_false_iff_ne]; omega
    by_cases h1 : T[1]? = some 43 ∨ T[1]? = some 45
    · rw [secT_open hh h1]
      have hT1 : 1 < s.size := by
        rw [hss]
        rcases h1 with h1 | h1 <;> exact (List.getElem?_eq_some_iff.1 h1).1
      have hT1' : (1 : Int) < (s.size : Int) := by omega
      by_cases h43 : T[1]? = some 43
      · have b1 : (((s[1]).toNat : Int) == 43) = true := byte_beq s 1 hT1 43 (by rw [hsl]; exact h43)
        clear hsl hss es h1 h43 hh
        go_enter Tryd.func4, Tryd.ntmps4
        go_wp2_with fail
        refine tx.out.mono ?_
        rintro e w' ⟨rfl, rfl⟩
        go_wp2
        go_ret2
        exact ⟨rfl, rfl⟩
      · have h45 : T[1]? = some 45 := h1.resolve_left h43
        have b1 : (((s[1]).toNat : Int) == 43) = false := byte_bne s 1 hT1 43 (by rw [hsl]; exact h43)
        have b2 : (((s[1]).toNat : Int) == 45) = true := byte_beq s 1 hT1 45 (by rw [hsl]; exact h45)
        clear hsl hss es h1 h43 h45 hh
        go_enter Tryd.func4, Tryd.ntmps4
        go_wp2_with fail
        refine tx.out.mono ?_
        rintro e w' ⟨rfl, rfl⟩
        go_wp2
        go_ret2
        exact ⟨rfl, rfl⟩
    · clear n0
      exact specSec_figs N k A t T n c w s tx ST hN (by omega) (Lib.hid hsl) (Lib.hid hss) hT0 (Lib.hid hh) b0 b0' (Lib.hid h1)
  · rw [secT_text hh]
    have E : Hid ((⟨T.toArray⟩ : ByteArray) = s) := Lib.hid es.symm
    by_cases h0 : s.size = 0
    · have h1 : s.toList = [] := by rw [ByteArray.toList_eq]; exact List.eq_nil_of_length_eq_zero (by simp [h0])
      clear hsl hss es hh
      go_enter Tryd.func4, Tryd.ntmps4
      go_wp2_with fail
      refine tx.out.mono ?_
      rintro e w' ⟨rfl, rfl⟩
      go_wp2
      go_ret2
      exact ⟨ret_si E.out.symm rfl, rfl⟩
    · have hT0 : 0 < s.size := by omega
      have b0 : (((s[0]).toNat : Int) == 47) = false := byte_bne s 0 hT0 47 (by rw [hsl, ← List.head?_eq_getElem?]; exact hh)
      have b0' : (((s[0]).toNat : Int) != 47) = true := by rw [bne, b0]; rfl
      have n0 : ((s.size : Int) == 0) = false := by rw [beq_eq_false_iff_ne]; omega
      clear hsl hss es hh h0
      go_enter Tryd.func4, Tryd.ntmps4
      go_wp2_with fail
      refine tx.out.mono ?_
      rintro e w' ⟨rfl, rfl⟩
      go_wp2
      go_ret2
      exact ⟨ret_si E.out.symm rfl, rfl⟩
end Go.Proofs.YtjgphiogjmkniaaDoor
