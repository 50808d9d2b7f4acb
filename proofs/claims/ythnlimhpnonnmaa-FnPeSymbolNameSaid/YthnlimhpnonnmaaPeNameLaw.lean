/-
  The reference's name of a symbol; the walk of the law FnPeSymbolName.
-/
import Derived.Test.YthnlimhpnonnmaaPeName
namespace Go.Proofs.Ythnlimhpnonnmaa
set_option linter.unusedVariables false
set_option linter.unusedSimpArgs false
open Go Go.RowKit

set_option maxRecDepth 100000 in
set_option maxHeartbeats 1000000 in
theorem specName (N : Option Addr) (k : Nat) (l : List UInt8) (A : Option Addr) (t : List UInt8) (n c : Nat) (w : World) (h8 : 8 = l.length) (hk : 8 ≤ k) (hNm : RB w N l) (hN : Hid (n = t.length)) (hc : n ≤ c) (hb : n ≤ 2147483647) (hT : RB w A t) :
    Calls Try.prog 18 #[.slice N 8 k, .slice A n c] w fun e w' => e = .returned (.tuple #[.string ⟨(symRes l t).1.toArray⟩, .bool (symRes l t).2]) ∧ w = w' := by
  have hsl : ∀ W, (Instr.slice 22 (.slice N 8 k) (some (.int .i64 4)) none none).run Try.prog W = .ok (.slice (slA N k 4) 4 (k - 4)) W := fun W => run_slice_from (P := Try.prog) Try.underlying22 (info_parts Try.infoByte).choose_spec.1 (info_parts Try.infoByte).choose_spec.2.2.1 N 8 k 4 .i64 (by omega) W
  have hN4 := hNm.drop (c := k) (by omega) 4
  have hl4 : 4 = (l.drop 4).length := by simp; omega
  have ht4 : (l.drop 4).take 4 = l.drop 4 := List.take_of_length_le (by omega)
  have n1 : Hid (Calls Try.prog 15 #[.bool false, .int .i64 4, .slice N 8 k] w fun e w' => e = .returned (.int .u64 (num false (l.take 4) : Nat)) ∧ w = w') := Lib.hid (specNumber_any false N l 8 k 4 h8 (by omega) (by omega) w hNm)
  have n2 : Hid (Calls Try.prog 15 #[.bool false, .int .i64 4, .slice (slA N k 4) 4 (k - 4)] w fun e w' => e = .returned (.int .u64 (num false ((l.drop 4).take 4) : Nat)) ∧ w = w') := Lib.hid (specNumber_any false (slA N k 4) (l.drop 4) 4 (k - 4) 4 hl4 (by omega) (by omega) w hN4)
  have hres : symRes l t = if num false (l.take 4) = 0 then (if num false (l.drop 4) = 0 then (text l, true) else (strAt t (num false (l.drop 4)), strOk t.length (num false (l.drop 4)))) else (text l, true) := by
    unfold symRes isOff offOf
    by_cases h0 : num false (l.take 4) = 0
    · by_cases h1 : num false (l.drop 4) = 0 <;> simp [h0, h1]
    · simp [h0]
  have hlt : num false (l.drop 4) < 4294967296 := by
    have := num_lt false (l.drop 4)
    rw [← hl4] at this
    simpa using this
  rw [ht4] at n2
  replace hres := Lib.hid hres
  have tx := Lib.hid (specText_any N l 8 k h8 hk (by omega) w hNm)
  have st := Lib.hid (specString A t n c (num false (l.drop 4)) hN.out hc hb (by omega) w hT)
  clear hN4 hl4 ht4 h8
  by_cases h0 : num false (l.take 4) = 0
  · rw [h0] at n1
    by_cases h1 : num false (l.drop 4) = 0
    · rw [h1] at n2
      go_enter Try.func18, Try.ntmps18
      go_wp2_with fail
      refine n1.out.mono ?_
      rintro e w' ⟨rfl, rfl⟩
      go_wp2_with fail
      refine n2.out.mono ?_
      rintro e w' ⟨rfl, rfl⟩
      go_wp2_with fail
      refine tx.out.mono ?_
      rintro e w' ⟨rfl, rfl⟩
      go_wp2
      go_ret2
      refine ⟨?_, rfl⟩
      rw [hres.out, if_pos h0, if_pos h1]
      rfl
    · have hbe : (((num false (l.drop 4) : Nat) : Int) != 0) = true := by rw [bne_iff_ne]; omega
      have hw : IntKind.u32.wrap ((num false (l.drop 4) : Nat) : Int) = ((num false (l.drop 4) : Nat) : Int) := by rw [IntKind.wrap_u32]; omega
      have hres2 := hres.out
      rw [if_pos h0, if_neg h1] at hres2
      replace hres2 := Lib.hid hres2
      clear h0
      generalize num false (l.drop 4) = x at *
      go_enter Try.func18, Try.ntmps18
      go_wp2_with fail
      refine n1.out.mono ?_
      rintro e w' ⟨rfl, rfl⟩
      go_wp2_with fail
      refine n2.out.mono ?_
      rintro e w' ⟨rfl, rfl⟩
      go_wp2_with fail
      refine n2.out.mono ?_
      rintro e w' ⟨rfl, rfl⟩
      go_wp2_with fail
      refine st.out.mono ?_
      rintro e w' ⟨rfl, rfl⟩
      go_wp2
      go_ret2
      refine ⟨?_, rfl⟩
      rw [hres2.out]
      simp [hN.out]
  · have hbe : (((num false (l.take 4) : Nat) : Int) == 0) = false := by rw [beq_eq_false_iff_ne]; omega
    have hres2 := hres.out
    rw [if_neg h0] at hres2
    replace hres2 := Lib.hid hres2
    generalize num false (l.take 4) = x at *
    go_enter Try.func18, Try.ntmps18
    go_wp2_with fail
    refine n1.out.mono ?_
    rintro e w' ⟨rfl, rfl⟩
    go_wp2_with fail
    refine tx.out.mono ?_
    rintro e w' ⟨rfl, rfl⟩
    go_wp2
    go_ret2
    refine ⟨?_, rfl⟩
    rw [hres2.out]
    rfl

set_option maxRecDepth 100000 in
set_option maxHeartbeats 1000000 in
theorem law_FnPeSymbolName (a0 : Option Addr) (len0 cap0 : Nat) (z0 : List Int) (a1 : Option Addr) (len1 cap1 : Nat) (z1 : List Int) (w : World) (w0 : IsRow .u8 w a0 len0 cap0 z0) (w1 : IsRow .u8 w a1 len1 cap1 z1) :
    Calls Try.prog 7 #[.slice a0 len0 cap0, .slice a1 len1 cap1] w fun e w' => e = .returned (.bool true) ∧ Below w.heap.size w w' := by
  obtain ⟨l, hl, hr, hc, hm⟩ := w0.bytes
  obtain ⟨t, ht, hrt, hct, hmt⟩ := w1.bytes
  have hN := Lib.hid hl
  have hT := Lib.hid ht
  clear hl ht w0 w1 hm hmt
  by_cases hA : len0 ≤ 1048576 ∧ len1 ≤ 1048576
  · obtain ⟨ha, hb⟩ := hA
    by_cases h8 : len0 = 8
    · subst h8
      have H := Lib.hid (implName a0 cap0 l a1 t len1 cap1 w hN.out hc hr hT hct (by omega) hrt)
      have S := Lib.hid (fun (W : World) (hbw : Below w.heap.size w W) => specName a0 cap0 l a1 t len1 cap1 W hN.out hc (hr.later hbw) hT hct (by omega) (hrt.later hbw))
      generalize (symRes l t).1 = s at *
      generalize (symRes l t).2 = b at *
      go_enter Try.func7, Try.ntmps7
      go_wp2_with fail
      refine H.out.mono ?_
      rintro e w1 ⟨rfl, b1⟩
      go_wp2_with fail
      refine (S.out w1 b1).mono ?_
      rintro e w' ⟨rfl, rfl⟩
      replace b1 := Lib.hid b1
      cases b
      all_goals
        go_wp2
        go_ret
        exact ⟨rfl, b1.out⟩
    · have h8' : ((len0 : Int) != 8) = true := by rw [bne_iff_ne]; omega
      go_enter Try.func7, Try.ntmps7
      go_wp2
      go_ret
      exact ⟨rfl, Below.refl _ _⟩
  · by_cases h1 : len0 ≤ 2147483647
    · by_cases h2 : len1 ≤ 2147483647
      · by_cases h3 : len0 ≤ 1048576
        · have h4 : Hid (1048576 < len1) := Lib.hid (by omega)
          have h5 : (1048576 : Int) < (len1 : Int) := by have := h4.out; omega
          go_enter Try.func7, Try.ntmps7
          go_wp2
          go_ret
          exact ⟨rfl, Below.refl _ _⟩
        · have h5 : (1048576 : Int) < (len0 : Int) := by omega
          go_enter Try.func7, Try.ntmps7
          go_wp2
          go_ret
          exact ⟨rfl, Below.refl _ _⟩
      · have h5 : (2147483647 : Int) < (len1 : Int) := by omega
        go_enter Try.func7, Try.ntmps7
        go_wp2
        go_ret
        exact ⟨rfl, Below.refl _ _⟩
    · have h5 : (2147483647 : Int) < (len0 : Int) := by omega
      go_enter Try.func7, Try.ntmps7
      go_wp2
      go_ret
      exact ⟨rfl, Below.refl _ _⟩
end Go.Proofs.Ythnlimhpnonnmaa
