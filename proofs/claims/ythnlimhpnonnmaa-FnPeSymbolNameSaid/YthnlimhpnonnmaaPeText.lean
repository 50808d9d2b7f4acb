/-
  The contracts of the functions that read texts at places, and the law on them.
-/
import Derived.Test.YthnlimhpnonnmaaText
namespace Go.Proofs.Ythnlimhpnonnmaa
set_option linter.unusedVariables false
set_option linter.unusedSimpArgs false
open Go Go.RowKit

theorem sizeByte : (info_parts Try.infoByte).choose.size = 1 := (info_parts Try.infoByte).choose_spec.2.2.1

/-- The text that begins at a place: none where no nought stands behind it. -/
def hasText (l : List UInt8) (s : Nat) : Bool := decide ((0 : UInt8) ∈ l.drop s)
def textAt (l : List UInt8) (s : Nat) : List UInt8 := if hasText l s then text (l.drop s) else []

set_option maxHeartbeats 400000 in
theorem getString_out (A : Option Addr) (n c : Nat) (s : Int) (hs : s < 0 ∨ (n : Int) ≤ s) (w : World) :
    Calls Try.prog 34 #[.slice A n c, .int .i64 s] w fun e w' => e = .returned (.tuple #[.string ⟨#[]⟩, .bool false]) ∧ w = w' := by
  by_cases h0 : s < 0
  · have g1 : decide (s < 0) = true := by simpa using h0
    go_enter Try.func34, Try.ntmps34
    go_wp2
    go_ret2
    exact ⟨rfl, rfl⟩
  · have g1 : decide (s < 0) = false := by simpa using h0
    have g2 : decide ((n : Int) ≤ s) = true := decide_eq_true (by omega)
    go_enter Try.func34, Try.ntmps34
    go_wp2
    go_ret2
    exact ⟨rfl, rfl⟩

theorem ret_two {a b : ByteArray} {x y : Bool} (h : a = b) (hx : x = y) : Ending.returned (.tuple #[.string a, .bool x]) = .returned (.tuple #[.string b, .bool y]) := by rw [h, hx]

set_option maxHeartbeats 1000000 in
theorem getString_in (A : Option Addr) (l : List UInt8) (n c s : Nat) (hn : n = l.length) (hc : n ≤ c) (hb : n ≤ 2147483647) (hs : s < n) (w : World) (h : RB w A l) :
    Calls Try.prog 34 #[.slice A n c, .int .i64 s] w fun e w' => e = .returned (.tuple #[.string ⟨(textAt l s).toArray⟩, .bool (hasText l s)]) ∧ w = w' := by
  obtain ⟨b, o, rfl⟩ := h.addr (by omega)
  have hlt := text_le (l.drop s)
  have hdl : (l.drop s).length = n - s := by simp; omega
  obtain ⟨T, hT⟩ : ∃ T, T = s + (text (l.drop s)).length := ⟨_, rfl⟩
  have hTn : T ≤ n := by omega
  have hsT : s ≤ T := by omega
  have hsl := run_slice_mid (P := Try.prog) Try.underlying22 (info_parts Try.infoByte).choose_spec.1 sizeByte (some ⟨b, o, none⟩) n c s T .i64 .i64 hsT (by omega) w
  have hcv := run_conv_RB (P := Try.prog) (w := w) Try.underlying22 Try.underlying5 Try.underlying9 ((h.drop (by omega : l.length ≤ c) s).take (text (l.drop s)).length) (n := T - s) (c := c - s) (by simp; omega)
  rw [text_take] at hcv
  have E1 := Lib.hid (show (T = n → hasText l s = false ∧ textAt l s = []) from fun e => by
    have : (0 : UInt8) ∉ l.drop s := fun hm => by have := (index0_some _ hm).2; omega
    simp [hasText, textAt, this])
  have E2 := Lib.hid (show (T < n → hasText l s = true ∧ textAt l s = text (l.drop s)) from fun e => by
    have : (0 : UInt8) ∈ l.drop s := by
      by_cases hm : (0 : UInt8) ∈ l.drop s
      · exact hm
      · have := (index0_none _ hm).2
        rw [this] at hT
        omega
    simp [hasText, textAt, this])
  have hbef : ∀ j (hj : j < l.length), s ≤ j → j < T → (((l[j]).toNat : Int) == 0) = false := fun j hj h1 h2 => by
    have := text_before (l.drop s) (j - s) (by omega) (by omega)
    rw [List.getElem_drop] at this
    have e : s + (j - s) = j := by omega
    simpa only [e] using this
  have hat : ∀ (hj : T < l.length), (((l[T]).toNat : Int) == 0) = true := fun hj => by
    have := text_at (l.drop s) (by omega)
    rw [List.getElem_drop] at this
    simpa only [← hT] using this
  have HB := Lib.hid hbef
  have HA := Lib.hid hat
  have HS := Lib.hid hsl
  have HC := Lib.hid hcv
  have hN := Lib.hid hn
  clear hbef hat hsl hcv hn hT hlt hdl
  have g1 : decide ((s : Int) < 0) = false := decide_eq_false (by omega)
  have g2 : decide ((n : Int) ≤ (s : Int)) = false := decide_eq_false (by omega)
  go_enter Try.func34, Try.ntmps34
  go_wp2
  go_loop [6] (fun i => ∃ j : Nat, s ≤ j ∧ j ≤ T ∧ i = .int .i64 j) (fun i => n - (intOf i).toNat)
  case atStart => exact ⟨s, Nat.le_refl _, hsT, rfl⟩
  case round =>
    obtain ⟨j, hsj, hj, rfl⟩ := hrel
    by_cases hjn : j < n
    · have hjl : j < l.length := by rw [← hN.out]; exact hjn
      have hcell := h.at hjl
      have hx := (l[j]).toNat_lt
      by_cases hjT : j < T
      · have hz := HB.out j hjl hsj hjT
        generalize l[j].toNat = x at *
        go_wp2
        go_round
        case rel => exact ⟨j + 1, by omega, by omega, by go_num⟩
        case measure => simp [intOf]; omega
      · obtain rfl : j = T := by omega
        have hz := HA.out hjl
        generalize l[j].toNat = x at *
        have hsl := HS.out
        have hcv := HC.out
        have E := Lib.hid (E2.out hjn)
        clear E1 E2
        go_wp2
        go_ret2
        exact ⟨ret_two (by rw [E.out.2]) E.out.1.symm, rfl⟩
    · obtain rfl : j = n := by omega
      have E := Lib.hid (E1.out (by omega))
      clear E1 E2
      go_wp2
      go_ret2
      exact ⟨ret_two (by rw [E.out.2]) E.out.1.symm, rfl⟩

set_option maxHeartbeats 400000 in
theorem zzString_of (A : Option Addr) (n c : Nat) (s : Int) (g : ByteArray) (ok : Bool) (w : World)
    (h : Calls Try.prog 34 #[.slice A n c, .int .i64 s] w fun e w' => e = .returned (.tuple #[.string g, .bool ok]) ∧ w = w') :
    Calls Try.prog 25 #[.slice A n c, .int .i64 s] w fun e w' => e = .returned (.tuple #[.string g, .bool ok]) ∧ w = w' := by
  have H := Lib.hid h
  clear h
  go_enter Try.func25, Try.ntmps25
  go_wp2_with fail
  refine H.out.mono ?_
  rintro e w' ⟨rfl, rfl⟩
  go_wp2
  go_ret2
  exact ⟨rfl, rfl⟩

set_option maxHeartbeats 400000 in
/-- The text at a place, of a copy of the bytes. -/
theorem peTextAt (A : Option Addr) (l : List UInt8) (n c : Nat) (s : Int) (hn : n = l.length) (hb : n ≤ 2147483647) (w : World) (h : RB w A l) (g : List UInt8) (ok : Bool)
    (hout : s < 0 ∨ (n : Int) ≤ s → g = [] ∧ ok = false) (hin : ∀ k : Nat, s = k → k < n → g = textAt l k ∧ ok = hasText l k) :
    Calls Try.prog 11 #[.slice A n c, .int .i64 s] w fun e w' => e = .returned (.tuple #[.string ⟨g.toArray⟩, .bool ok]) ∧ Below w.heap.size w w' := by
  have hN := Lib.hid hn
  have HO := Lib.hid hout
  have HI := Lib.hid hin
  clear hn hout hin
  go_enter Try.func11, Try.ntmps11
  go_wp2_with fail
  refine (copied_any A l n c hN.out hb w h).mono ?_
  rintro e w1 ⟨⟨v, rfl, hown⟩, hb1⟩
  obtain ⟨hl, A1, c1, rfl, hr1, hc1, _, _, _⟩ := RB.of_owns hown
  have hN1 := Lib.hid hl
  clear hl hown
  have H : Hid (Calls Try.prog 34 #[.slice A1 n c1, .int .i64 s] w1 fun e w' => e = .returned (.tuple #[.string ⟨g.toArray⟩, .bool ok]) ∧ w1 = w') := by
    by_cases hs : s < 0 ∨ (n : Int) ≤ s
    · obtain ⟨rfl, rfl⟩ := HO.out hs
      exact Lib.hid (getString_out A1 n c1 s hs w1)
    · obtain ⟨k, rfl⟩ := Int.eq_ofNat_of_zero_le (show 0 ≤ s by omega)
      obtain ⟨rfl, rfl⟩ := HI.out k rfl (by omega)
      exact Lib.hid (getString_in A1 l n c1 k hN1.out hc1 hb (by omega) w1 hr1)
  go_wp2_with fail
  refine (zzString_of A1 n c1 s _ ok w1 H.out).mono ?_
  rintro e w' ⟨rfl, rfl⟩
  go_wp2
  go_ret2
  exact ⟨rfl, hb1⟩

set_option maxHeartbeats 1000000 in
theorem law_FnPeTextAt (a0 : Option Addr) (len0 cap0 : Nat) (z0 : List Int) (a1 : Int) (w : World) (w0 : IsRow .u8 w a0 len0 cap0 z0) (w1 : (Lit.int .i64 a1).wf = true) :
    Calls Try.prog 4 #[.slice a0 len0 cap0, .int .i64 a1] w fun e w' => e = .returned (.bool true) ∧ Below w.heap.size w w' := by
  obtain ⟨l, hl, hr, hc, hm⟩ := w0.bytes
  have hN := Lib.hid hl
  clear hl w0 w1
  by_cases hb : len0 ≤ 1048576
  · by_cases hs : a1 < 0 ∨ (len0 : Int) ≤ a1
    · have H := Lib.hid (peTextAt a0 l len0 cap0 a1 hN.out (by omega) w hr [] false (fun _ => ⟨rfl, rfl⟩) (fun k e1 e2 => by omega))
      by_cases h0 : a1 < 0
      · have g1 : decide (a1 < 0) = true := by simpa using h0
        go_enter Try.func4, Try.ntmps4
        go_wp2_with fail
        refine H.out.mono ?_
        rintro e w1 ⟨rfl, hb1⟩
        go_wp2
        go_ret
        exact ⟨rfl, hb1⟩
      · have g1 : decide (a1 < 0) = false := by simpa using h0
        have g2 : decide ((len0 : Int) ≤ a1) = true := decide_eq_true (by omega)
        go_enter Try.func4, Try.ntmps4
        go_wp2_with fail
        refine H.out.mono ?_
        rintro e w1 ⟨rfl, hb1⟩
        go_wp2
        go_ret
        exact ⟨rfl, hb1⟩
    · obtain ⟨k, rfl⟩ := Int.eq_ofNat_of_zero_le (show 0 ≤ a1 by omega)
      have hk : k < len0 := by omega
      have H := Lib.hid (peTextAt a0 l len0 cap0 k hN.out (by omega) w hr (textAt l k) (hasText l k) (fun h => by omega) (fun j e1 _ => have hj : j = k := by omega
        ⟨by rw [hj], by rw [hj]⟩))
      have g1 : decide ((k : Int) < 0) = false := decide_eq_false (by omega)
      have g2 : decide ((len0 : Int) ≤ (k : Int)) = false := decide_eq_false (by omega)
      have hsl := fun W => run_slice_from (P := Try.prog) Try.underlying22 (info_parts Try.infoByte).choose_spec.1 sizeByte a0 len0 cap0 k .i64 (by omega) W
      have hle := text_le (l.drop k)
      have hdl : (l.drop k).length = len0 - k := by have := hN.out; simp; omega
      have hx : hasText l k = true → ((k : Int) + ((text (l.drop k)).length : Int) == (len0 : Int)) = false := fun h => by
        have := (index0_some (l.drop k) (by simpa [hasText] using h)).2
        rw [beq_eq_false_iff_ne]
        omega
      have hy : hasText l k = false → ((k : Int) + ((text (l.drop k)).length : Int) == (len0 : Int)) = true := fun h => by
        have := (index0_none (l.drop k) (by simpa [hasText] using h)).2
        rw [beq_iff_eq, this]
        omega
      have hD := Lib.hid hdl
      clear hdl
      cases hh : hasText l k
      · have hy := hy hh
        have ht : textAt l k = [] := by simp [textAt, hh]
        rw [hh, ht] at H
        clear hx hh ht
        have HL : (text (l.drop k)).length ≤ 1048576 := by have := hD.out; omega
        have E := Lib.hid hy
        clear hy
        go_enter Try.func4, Try.ntmps4
        go_wp2_with fail
        refine H.out.mono ?_
        rintro e w1 ⟨rfl, hb1⟩
        have hr1 := (hr.later hb1).drop (c := cap0) (by have := hN.out; omega) k
        go_wp2_with fail
        refine (specText_any _ (l.drop k) _ _ hD.out.symm (by omega) (by omega) w1 hr1).mono ?_
        rintro e w' ⟨rfl, rfl⟩
        have hy := E.out
        go_wp2
        go_ret
        exact ⟨rfl, hb1⟩
      · have hx := hx hh
        have ht : textAt l k = text (l.drop k) := by simp [textAt, hh]
        rw [hh, ht] at H
        clear hy hh ht
        have HL : (text (l.drop k)).length ≤ 1048576 := by have := hD.out; omega
        have E := Lib.hid hx
        clear hx
        go_enter Try.func4, Try.ntmps4
        go_wp2_with fail
        refine H.out.mono ?_
        rintro e w1 ⟨rfl, hb1⟩
        have hr1 := (hr.later hb1).drop (c := cap0) (by have := hN.out; omega) k
        go_wp2_with fail
        refine (specText_any _ (l.drop k) _ _ hD.out.symm (by omega) (by omega) w1 hr1).mono ?_
        rintro e w' ⟨rfl, rfl⟩
        have hx := E.out
        go_wp2
        go_ret
        exact ⟨by simp, hb1⟩
  · go_enter Try.func4, Try.ntmps4
    go_wp2
    all_goals (go_ret; exact ⟨rfl, Below.refl _ _⟩)
set_option maxHeartbeats 400000 in
theorem law_FnPeText (a0 : Option Addr) (len0 cap0 : Nat) (z0 : List Int) (w : World) (w0 : IsRow .u8 w a0 len0 cap0 z0) :
    Calls Try.prog 3 #[.slice a0 len0 cap0] w fun e w' => e = .returned (.bool true) ∧ Below w.heap.size w w' := by
  obtain ⟨l, hl, hr, hc, hm⟩ := w0.bytes
  have hN := Lib.hid hl
  clear hl w0
  by_cases hb : len0 ≤ 1048576
  · go_enter Try.func3, Try.ntmps3
    go_wp2_with fail
    refine (implText_any a0 l len0 cap0 hN.out (by omega) w hr).mono ?_
    rintro e w1 ⟨rfl, hb1⟩
    have hr1 := hr.later hb1
    go_wp2_with fail
    refine (specText_any a0 l len0 cap0 hN.out hc (by omega) w1 hr1).mono ?_
    rintro e w' ⟨rfl, rfl⟩
    go_wp2
    go_ret
    exact ⟨by simp, hb1⟩
  · go_enter Try.func3, Try.ntmps3
    go_wp2
    all_goals (go_ret; exact ⟨rfl, Below.refl _ _⟩)

end Go.Proofs.Ythnlimhpnonnmaa
