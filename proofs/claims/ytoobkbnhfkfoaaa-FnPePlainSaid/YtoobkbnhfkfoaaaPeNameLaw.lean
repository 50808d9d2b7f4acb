/-
  The reference's name of a symbol; the walk of the law FnPeSymbolName.
-/
import Derived.Test.YtoobkbnhfkfoaaaPeName
namespace Go.Proofs.Ytoobkbnhfkfoaaa
set_option linter.unusedVariables false
set_option linter.unusedSimpArgs false
open Go Go.RowKit

set_option maxRecDepth 100000 in
set_option maxHeartbeats 1000000 in
theorem specName (N : Option Addr) (k : Nat) (l : List UInt8) (A : Option Addr) (t : List UInt8) (n c : Nat) (w : World) (h8 : 8 = l.length) (hk : 8 ≤ k) (hNm : RB w N l) (hN : Hid (n = t.length)) (hc : n ≤ c) (hb : n ≤ 2147483647) (hT : RB w A t) :
    Calls Try.prog 8 #[.slice N 8 k, .slice A n c] w fun e w' => e = .returned (.tuple #[.string ⟨(symRes l t).1.toArray⟩, .bool (symRes l t).2]) ∧ w = w' := by
  have hsl : ∀ W, (Instr.slice 22 (.slice N 8 k) (some (.int .i64 4)) none none).run Try.prog W = .ok (.slice (slA N k 4) 4 (k - 4)) W := fun W => run_slice_from (P := Try.prog) Try.underlying22 (info_parts Try.infoByte).choose_spec.1 (info_parts Try.infoByte).choose_spec.2.2.1 N 8 k 4 .i64 (by omega) W
  have hN4 := hNm.drop (c := k) (by omega) 4
  have hl4 : 4 = (l.drop 4).length := by simp; omega
  have ht4 : (l.drop 4).take 4 = l.drop 4 := List.take_of_length_le (by omega)
  have n1 : Hid (Calls Try.prog 14 #[.bool false, .int .i64 4, .slice N 8 k] w fun e w' => e = .returned (.int .u64 (num false (l.take 4) : Nat)) ∧ w = w') := Lib.hid (specNumber_any false N l 8 k 4 h8 (by omega) (by omega) w hNm)
  have n2 : Hid (Calls Try.prog 14 #[.bool false, .int .i64 4, .slice (slA N k 4) 4 (k - 4)] w fun e w' => e = .returned (.int .u64 (num false ((l.drop 4).take 4) : Nat)) ∧ w = w') := Lib.hid (specNumber_any false (slA N k 4) (l.drop 4) 4 (k - 4) 4 hl4 (by omega) (by omega) w hN4)
  have hres : symRes l t = if num false (l.take 4) = 0 then (if num false (l.drop 4) = 0 then (text l, true) else (strAt t (num false (l.drop 4)), strOk t.length (num false (l.drop 4)))) else (text l, true) := by
    unfold symRes isOff offOf
    by_cases h0 : num false (l.take 4) = 0
    · by_cases h1 : num false (l.drop 4) = 0 <;> simp [h0, h1]
    · simp [h0]
  have hlt : num false (l.drop 4) < 4294967296 := by
    have := num_lt false (l.drop 4)
    rw [← hl4] at this
    simpa using this
  rw [ht4] at n2
  replace hres := Lib.hid hres
  have tx := Lib.hid (specText_any N l 8 k h8 hk (by omega) w hNm)
  have st := Lib.hid (specString A t n c (num false (l.drop 4)) hN.out hc hb (by omega) w hT)
  clear hN4 hl4 ht4 h8
  by_cases h0 : num false (l.take 4) = 0
  · rw [h0] at n1
    by_cases h1 : num false (l.drop 4) = 0
    · rw [h1] at n2
      go_enter Try.func8, Try.ntmps8
      go_wp2_with fail
      refine n1.out.mono ?_
      rintro e w' ⟨rfl, rfl⟩
      go_wp2_with fail
      refine n2.out.mono ?_
      rintro e w' ⟨rfl, rfl⟩
      go_wp2_with fail
      refine tx.out.mono ?_
      rintro e w' ⟨rfl, rfl⟩
      go_wp2
      go_ret2
      refine ⟨?_, rfl⟩
      rw [hres.out, if_pos h0, if_pos h1]
      rfl
    · have hbe : (((num false (l.drop 4) : Nat) : Int) != 0) = true := by rw [bne_iff_ne]; omega
      have hw : IntKind.u32.wrap ((num false (l.drop 4) : Nat) : Int) = ((num false (l.drop 4) : Nat) : Int) := by rw [IntKind.wrap_u32]; omega
      have hres2 := hres.out
      rw [if_pos h0, if_neg h1] at hres2
      replace hres2 := Lib.hid hres2
      clear h0
      generalize num false (l.drop 4) = x at *
      go_enter Try.func8, Try.ntmps8
      go_wp2_with fail
      refine n1.out.mono ?_
      rintro e w' ⟨rfl, rfl⟩
      go_wp2_with fail
      refine n2.out.mono ?_
      rintro e w' ⟨rfl, rfl⟩
      go_wp2_with fail
      refine n2.out.mono ?_
      rintro e w' ⟨rfl, rfl⟩
      go_wp2_with fail
      refine st.out.mono ?_
      rintro e w' ⟨rfl, rfl⟩
      go_wp2
      go_ret2
      refine ⟨?_, rfl⟩
      rw [hres2.out]
      simp [hN.out]
  · have hbe : (((num false (l.take 4) : Nat) : Int) == 0) = false := by rw [beq_eq_false_iff_ne]; omega
    have hres2 := hres.out
    rw [if_neg h0] at hres2
    replace hres2 := Lib.hid hres2
    generalize num false (l.take 4) = x at *
    go_enter Try.func8, Try.ntmps8
    go_wp2_with fail
    refine n1.out.mono ?_
    rintro e w' ⟨rfl, rfl⟩
    go_wp2_with fail
    refine tx.out.mono ?_
    rintro e w' ⟨rfl, rfl⟩
    go_wp2
    go_ret2
    refine ⟨?_, rfl⟩
    rw [hres2.out]
    rfl

end Go.Proofs.Ytoobkbnhfkfoaaa
