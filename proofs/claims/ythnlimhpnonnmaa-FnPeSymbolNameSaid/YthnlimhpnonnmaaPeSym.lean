/-
  The contract of the function that tells whether a name is a place in the table of texts, and the law on it.
-/
import Derived.Test.YthnlimhpnonnmaaOrd
import Derived.Test.YthnlimhpnonnmaaNum
import Derived.Test.YthnlimhpnonnmaaPeStr
namespace Go.Proofs.Ythnlimhpnonnmaa
set_option linter.unusedVariables false
set_option linter.unusedSimpArgs false
open Go Go.RowKit

theorem ret_bi {a b : Bool} {k : IntKind} {x y : Int} (h : a = b) (hx : x = y) : Ending.returned (.tuple #[.bool a, .int k x]) = .returned (.tuple #[.bool b, .int k y]) := by rw [h, hx]


set_option maxHeartbeats 1000000 in
theorem isSym_no0 (x0 x1 x2 x3 x4 x5 x6 x7 : UInt8)  (h0 : ((x0.toNat : Int) == 0) = false) (w : World) :
    Calls Try.prog 36 #[.agg #[.int .u8 x0.toNat, .int .u8 x1.toNat, .int .u8 x2.toNat, .int .u8 x3.toNat, .int .u8 x4.toNat, .int .u8 x5.toNat, .int .u8 x6.toNat, .int .u8 x7.toNat]] w fun e w' => e = .returned (.tuple #[.bool false, .int .u32 0]) ∧ Below w.heap.size w w' := by
  go_enter Try.func36, Try.ntmps36
  go_wp2
  go_ret2
  exact ⟨rfl, (Below.refl _ _).alloc (Nat.le_refl _) _⟩

set_option maxHeartbeats 1000000 in
theorem isSym_no1 (x0 x1 x2 x3 x4 x5 x6 x7 : UInt8) (h0 : ((x0.toNat : Int) == 0) = true) (h1 : ((x1.toNat : Int) == 0) = false) (w : World) :
    Calls Try.prog 36 #[.agg #[.int .u8 x0.toNat, .int .u8 x1.toNat, .int .u8 x2.toNat, .int .u8 x3.toNat, .int .u8 x4.toNat, .int .u8 x5.toNat, .int .u8 x6.toNat, .int .u8 x7.toNat]] w fun e w' => e = .returned (.tuple #[.bool false, .int .u32 0]) ∧ Below w.heap.size w w' := by
  go_enter Try.func36, Try.ntmps36
  go_wp2
  go_ret2
  exact ⟨rfl, (Below.refl _ _).alloc (Nat.le_refl _) _⟩

set_option maxHeartbeats 1000000 in
theorem isSym_no2 (x0 x1 x2 x3 x4 x5 x6 x7 : UInt8) (h0 : ((x0.toNat : Int) == 0) = true) (h1 : ((x1.toNat : Int) == 0) = true) (h2 : ((x2.toNat : Int) == 0) = false) (w : World) :
    Calls Try.prog 36 #[.agg #[.int .u8 x0.toNat, .int .u8 x1.toNat, .int .u8 x2.toNat, .int .u8 x3.toNat, .int .u8 x4.toNat, .int .u8 x5.toNat, .int .u8 x6.toNat, .int .u8 x7.toNat]] w fun e w' => e = .returned (.tuple #[.bool false, .int .u32 0]) ∧ Below w.heap.size w w' := by
  go_enter Try.func36, Try.ntmps36
  go_wp2
  go_ret2
  exact ⟨rfl, (Below.refl _ _).alloc (Nat.le_refl _) _⟩

set_option maxHeartbeats 1000000 in
theorem isSym_no3 (x0 x1 x2 x3 x4 x5 x6 x7 : UInt8) (h0 : ((x0.toNat : Int) == 0) = true) (h1 : ((x1.toNat : Int) == 0) = true) (h2 : ((x2.toNat : Int) == 0) = true) (h3 : ((x3.toNat : Int) == 0) = false) (w : World) :
    Calls Try.prog 36 #[.agg #[.int .u8 x0.toNat, .int .u8 x1.toNat, .int .u8 x2.toNat, .int .u8 x3.toNat, .int .u8 x4.toNat, .int .u8 x5.toNat, .int .u8 x6.toNat, .int .u8 x7.toNat]] w fun e w' => e = .returned (.tuple #[.bool false, .int .u32 0]) ∧ Below w.heap.size w w' := by
  go_enter Try.func36, Try.ntmps36
  go_wp2
  go_ret2
  exact ⟨rfl, (Below.refl _ _).alloc (Nat.le_refl _) _⟩

set_option maxHeartbeats 1000000 in
theorem isSym_yes0 (x0 x1 x2 x3 x4 x5 x6 x7 : UInt8) (h0 : ((x0.toNat : Int) == 0) = true) (h1 : ((x1.toNat : Int) == 0) = true) (h2 : ((x2.toNat : Int) == 0) = true) (h3 : ((x3.toNat : Int) == 0) = true) (hz : (((num false [x4, x5, x6, x7] : Nat) : Int) == 0) = false) (w : World) :
    Calls Try.prog 36 #[.agg #[.int .u8 x0.toNat, .int .u8 x1.toNat, .int .u8 x2.toNat, .int .u8 x3.toNat, .int .u8 x4.toNat, .int .u8 x5.toNat, .int .u8 x6.toNat, .int .u8 x7.toNat]] w fun e w' => e = .returned (.tuple #[.bool true, .int .u32 (num false [x4, x5, x6, x7] : Nat)]) ∧ Below w.heap.size w w' := by
  have hr : RB (w.alloc (.cells #[.int .u8 x0.toNat, .int .u8 x1.toNat, .int .u8 x2.toNat, .int .u8 x3.toNat, .int .u8 x4.toNat, .int .u8 x5.toNat, .int .u8 x6.toNat, .int .u8 x7.toNat] 61)) (some ⟨w.heap.size, 4, none⟩) [x4, x5, x6, x7] :=
    .inr ⟨_, _, rfl, fun i hi => by
      have hi' : i = 0 ∨ i = 1 ∨ i = 2 ∨ i = 3 := by simp at hi; omega
      rcases hi' with rfl | rfl | rfl | rfl <;> simp⟩
  have HR := Lib.hid hr
  clear hr
  go_enter Try.func36, Try.ntmps36
  go_wp2_with fail
  refine (u32_RB false w.heap.size 4 4 4 [x4, x5, x6, x7] _ HR.out (by simp) (by omega) (by omega)).mono ?_
  rintro e w' ⟨rfl, q, rfl⟩
  rw [show List.take 4 [x4, x5, x6, x7] = [x4, x5, x6, x7] from rfl]
  go_wp2
  go_ret2
  exact ⟨rfl, below_drewN ((Below.refl _ _).alloc (Nat.le_refl _) _) q⟩

set_option maxHeartbeats 1000000 in
theorem isSym_yes1 (x0 x1 x2 x3 x4 x5 x6 x7 : UInt8) (h0 : ((x0.toNat : Int) == 0) = true) (h1 : ((x1.toNat : Int) == 0) = true) (h2 : ((x2.toNat : Int) == 0) = true) (h3 : ((x3.toNat : Int) == 0) = true) (hz : (((num false [x4, x5, x6, x7] : Nat) : Int) == 0) = true) (w : World) :
    Calls Try.prog 36 #[.agg #[.int .u8 x0.toNat, .int .u8 x1.toNat, .int .u8 x2.toNat, .int .u8 x3.toNat, .int .u8 x4.toNat, .int .u8 x5.toNat, .int .u8 x6.toNat, .int .u8 x7.toNat]] w fun e w' => e = .returned (.tuple #[.bool false, .int .u32 0]) ∧ Below w.heap.size w w' := by
  have hr : RB (w.alloc (.cells #[.int .u8 x0.toNat, .int .u8 x1.toNat, .int .u8 x2.toNat, .int .u8 x3.toNat, .int .u8 x4.toNat, .int .u8 x5.toNat, .int .u8 x6.toNat, .int .u8 x7.toNat] 61)) (some ⟨w.heap.size, 4, none⟩) [x4, x5, x6, x7] :=
    .inr ⟨_, _, rfl, fun i hi => by
      have hi' : i = 0 ∨ i = 1 ∨ i = 2 ∨ i = 3 := by simp at hi; omega
      rcases hi' with rfl | rfl | rfl | rfl <;> simp⟩
  have HR := Lib.hid hr
  clear hr
  go_enter Try.func36, Try.ntmps36
  go_wp2_with fail
  refine (u32_RB false w.heap.size 4 4 4 [x4, x5, x6, x7] _ HR.out (by simp) (by omega) (by omega)).mono ?_
  rintro e w' ⟨rfl, q, rfl⟩
  rw [show List.take 4 [x4, x5, x6, x7] = [x4, x5, x6, x7] from rfl]
  go_wp2
  go_ret2
  exact ⟨rfl, below_drewN ((Below.refl _ _).alloc (Nat.le_refl _) _) q⟩

/-- Is a name of eight bytes the place of a text, and which? -/
def offOf (l : List UInt8) : Nat := if num false (l.take 4) = 0 then num false (l.drop 4) else 0
def isOff (l : List UInt8) : Bool := decide (offOf l ≠ 0)
theorem num4_zero (x y z u : UInt8) : num false [x, y, z, u] = 0 ↔ x.toNat = 0 ∧ y.toNat = 0 ∧ z.toNat = 0 ∧ u.toNat = 0 := by
  simp only [num, Lib.leNat, Bool.false_eq_true, if_false]
  omega
theorem beq_int0 {n : Nat} (h : n = 0) : ((n : Int) == 0) = true := by rw [beq_iff_eq]; omega
theorem bne_int0 {n : Nat} (h : n ≠ 0) : ((n : Int) == 0) = false := by rw [beq_eq_false_iff_ne]; omega

/-- The cells of bytes. -/
def bvs (l : List UInt8) : Array Value := (l.map bv).toArray

theorem isSym_any (x0 x1 x2 x3 x4 x5 x6 x7 : UInt8) (w : World) :
    Calls Try.prog 36 #[.agg #[.int .u8 x0.toNat, .int .u8 x1.toNat, .int .u8 x2.toNat, .int .u8 x3.toNat, .int .u8 x4.toNat, .int .u8 x5.toNat, .int .u8 x6.toNat, .int .u8 x7.toNat]] w fun e w' => e = .returned (.tuple #[.bool (isOff [x0, x1, x2, x3, x4, x5, x6, x7]), .int .u32 (offOf [x0, x1, x2, x3, x4, x5, x6, x7] : Nat)]) ∧ Below w.heap.size w w' := by
  have hd : offOf [x0, x1, x2, x3, x4, x5, x6, x7] = if num false [x0, x1, x2, x3] = 0 then num false [x4, x5, x6, x7] else 0 := rfl
  have hz := num4_zero x0 x1 x2 x3
  by_cases h0 : x0.toNat = 0
  · by_cases h1 : x1.toNat = 0
    · by_cases h2 : x2.toNat = 0
      · by_cases h3 : x3.toNat = 0
        · rw [if_pos (hz.2 ⟨h0, h1, h2, h3⟩)] at hd
          unfold isOff
          rw [hd]
          by_cases hn : num false [x4, x5, x6, x7] = 0
          · refine (isSym_yes1 x0 x1 x2 x3 x4 x5 x6 x7 (beq_int0 h0) (beq_int0 h1) (beq_int0 h2) (beq_int0 h3) (beq_int0 hn) w).mono ?_
            rintro e w' ⟨rfl, hb⟩
            exact ⟨by simp [hn], hb⟩
          · refine (isSym_yes0 x0 x1 x2 x3 x4 x5 x6 x7 (beq_int0 h0) (beq_int0 h1) (beq_int0 h2) (beq_int0 h3) (bne_int0 hn) w).mono ?_
            rintro e w' ⟨rfl, hb⟩
            exact ⟨by simp [hn], hb⟩
        · rw [if_neg (fun e => h3 (hz.1 e).2.2.2)] at hd
          unfold isOff
          rw [hd]
          exact (isSym_no3 x0 x1 x2 x3 x4 x5 x6 x7 (beq_int0 h0) (beq_int0 h1) (beq_int0 h2) (bne_int0 h3) w).mono fun e w' ⟨he, hb⟩ => ⟨by rw [he]; rfl, hb⟩
      · rw [if_neg (fun e => h2 (hz.1 e).2.2.1)] at hd
        unfold isOff
        rw [hd]
        exact (isSym_no2 x0 x1 x2 x3 x4 x5 x6 x7 (beq_int0 h0) (beq_int0 h1) (bne_int0 h2) w).mono fun e w' ⟨he, hb⟩ => ⟨by rw [he]; rfl, hb⟩
    · rw [if_neg (fun e => h1 (hz.1 e).2.1)] at hd
      unfold isOff
      rw [hd]
      exact (isSym_no1 x0 x1 x2 x3 x4 x5 x6 x7 (beq_int0 h0) (bne_int0 h1) w).mono fun e w' ⟨he, hb⟩ => ⟨by rw [he]; rfl, hb⟩
  · rw [if_neg (fun e => h0 (hz.1 e).1)] at hd
    unfold isOff
    rw [hd]
    exact (isSym_no0 x0 x1 x2 x3 x4 x5 x6 x7 (bne_int0 h0) w).mono fun e w' ⟨he, hb⟩ => ⟨by rw [he]; rfl, hb⟩

set_option maxHeartbeats 1000000 in
theorem zzIsSym_any (x0 x1 x2 x3 x4 x5 x6 x7 : UInt8) (w : World) :
    Calls Try.prog 27 #[.agg #[.int .u8 x0.toNat, .int .u8 x1.toNat, .int .u8 x2.toNat, .int .u8 x3.toNat, .int .u8 x4.toNat, .int .u8 x5.toNat, .int .u8 x6.toNat, .int .u8 x7.toNat]] w fun e w' => e = .returned (.tuple #[.bool (isOff [x0, x1, x2, x3, x4, x5, x6, x7]), .int .u32 (offOf [x0, x1, x2, x3, x4, x5, x6, x7] : Nat)]) ∧ Below w.heap.size w w' := by
  have H := isSym_any x0 x1 x2 x3 x4 x5 x6 x7
  generalize isOff [x0, x1, x2, x3, x4, x5, x6, x7] = p at H ⊢
  generalize offOf [x0, x1, x2, x3, x4, x5, x6, x7] = q at H ⊢
  have HH := Lib.hid H
  clear H
  go_enter Try.func27, Try.ntmps27
  go_wp2_with fail
  refine (HH.out _).mono ?_
  rintro e w' ⟨rfl, hb1⟩
  go_wp2
  go_ret2
  exact ⟨rfl, ((Below.refl _ _).alloc (Nat.le_refl _) _).trans (hb1.mono (by simp))⟩


theorem list8' {l : List UInt8} (h : 8 = l.length) : ∃ x0 x1 x2 x3 x4 x5 x6 x7, l = [x0, x1, x2, x3, x4, x5, x6, x7] := by
  match l, h with
  | [a, b, c, d, e, f, g, i], _ => exact ⟨a, b, c, d, e, f, g, i, rfl⟩

set_option maxHeartbeats 1000000 in
theorem implNameOffset_bad (A : Option Addr) (n c : Nat) (hn : n ≠ 8) (w : World) :
    Calls Try.prog 14 #[.slice A n c] w fun e w' => e = .returned (.tuple #[.bool false, .int .u32 0]) ∧ w = w' := by
  have g1 : ((n : Int) != 8) = true := by rw [bne_iff_ne]; omega
  go_enter Try.func14, Try.ntmps14
  go_wp2
  go_ret2
  exact ⟨rfl, rfl⟩

set_option maxHeartbeats 1000000 in
theorem implNameOffset (A : Option Addr) (l : List UInt8) (c : Nat) (hl : 8 = l.length) (hc : 8 ≤ c) (w : World) (h : RB w A l) :
    Calls Try.prog 14 #[.slice A 8 c] w fun e w' => e = .returned (.tuple #[.bool (isOff l), .int .u32 (offOf l : Nat)]) ∧ Below w.heap.size w w' := by
  obtain ⟨x0, x1, x2, x3, x4, x5, x6, x7, rfl⟩ := list8' hl
  obtain ⟨b, o, rfl⟩ := h.addr (by omega)
  have c0 := h.get 0 x0 rfl
  have c1 := h.get 1 x1 rfl
  have c2 := h.get 2 x2 rfl
  have c3 := h.get 3 x3 rfl
  have c4 := h.get 4 x4 rfl
  have c5 := h.get 5 x5 rfl
  have c6 := h.get 6 x6 rfl
  have c7 := h.get 7 x7 rfl
  rw [Nat.add_zero] at c0
  have H := zzIsSym_any x0 x1 x2 x3 x4 x5 x6 x7
  generalize isOff [x0, x1, x2, x3, x4, x5, x6, x7] = p at H ⊢
  generalize offOf [x0, x1, x2, x3, x4, x5, x6, x7] = q at H ⊢
  have HH := Lib.hid H
  have hat : ∀ w, (Instr.arrayAt 61 (.slice (some ⟨b, o, none⟩) 8 c)).run Try.prog w = .ok (.pointer (some ⟨b, o, none⟩)) w := fun w => run_arrayAt w 61 5 8 _ 8 c Try.underlying61 (by omega)
  clear H hl h
  go_enter Try.func14, Try.ntmps14
  go_wp2_with fail
  refine (HH.out _).mono ?_
  rintro e w' ⟨rfl, hb1⟩
  go_wp2
  go_ret2
  exact ⟨rfl, hb1⟩


set_option maxHeartbeats 400000 in
theorem one_yes (w : World) : Calls Try.prog 16 #[.bool true, .int .u32 1] w fun e w' => e = .returned (.bool true) ∧ w = w' := by
  go_enter Try.func16, Try.ntmps16
  go_wp2
  go_ret
  exact ⟨rfl, rfl⟩

theorem RB.new8 (w : World) (x0 x1 x2 x3 x4 x5 x6 x7 : UInt8) (e : TypeId) : RB (w.alloc (.cells #[.int .u8 x0.toNat, .int .u8 x1.toNat, .int .u8 x2.toNat, .int .u8 x3.toNat, .int .u8 x4.toNat, .int .u8 x5.toNat, .int .u8 x6.toNat, .int .u8 x7.toNat] e)) (some ⟨w.heap.size, 0, none⟩) [x0, x1, x2, x3, x4, x5, x6, x7] :=
  .inr ⟨_, _, rfl, fun i hi => by
    have hi' : i = 0 ∨ i = 1 ∨ i = 2 ∨ i = 3 ∨ i = 4 ∨ i = 5 ∨ i = 6 ∨ i = 7 := by simp at hi; omega
    rcases hi' with rfl | rfl | rfl | rfl | rfl | rfl | rfl | rfl <;> simp⟩

set_option maxHeartbeats 1000000 in
theorem law_FnPeNameOffset (a0 : Option Addr) (len0 cap0 : Nat) (z0 : List Int) (w : World) (w0 : IsRow .u8 w a0 len0 cap0 z0) :
    Calls Try.prog 6 #[.slice a0 len0 cap0] w fun e w' => e = .returned (.bool true) ∧ Below w.heap.size w w' := by
  obtain ⟨l, hl, hr, hc, hm⟩ := w0.bytes
  clear w0
  by_cases hb : len0 ≤ 1048576
  · by_cases h8 : len0 = 8
    · subst h8
      have H := implNameOffset a0 l cap0 hl hc w hr
      have hz : offOf l = if num false (l.take 4) = 0 then num false (l.drop 4) else 0 := rfl
      have hN := Lib.hid hl
      have hr4 := hr.drop (c := cap0) (by omega) 4
      have hd4 : (l.drop 4).length = 4 := by simp; omega
      have ht4 : (l.drop 4).take 4 = l.drop 4 := List.take_of_length_le (by omega)
      have hlt := num_lt false (l.drop 4)
      rw [hd4] at hlt
      simp only [Nat.reducePow] at hlt
      have hsl : ∀ W, (Instr.slice 22 (.slice a0 8 cap0) (some (.int .i64 4)) none none).run Try.prog W = .ok (.slice (slA a0 cap0 4) 4 (cap0 - 4)) W := fun W => run_slice_from (P := Try.prog) Try.underlying22 (info_parts Try.infoByte).choose_spec.1 sizeByte a0 8 cap0 4 .i64 (by omega) W
      have HD := Lib.hid hd4
      clear hl hd4
      by_cases h0 : num false (l.take 4) = 0
      · rw [if_pos h0] at hz
        have hi : isOff l = decide (num false (l.drop 4) ≠ 0) := by unfold isOff; rw [hz]
        rw [hi, hz] at H
        clear hz hi
        have H0 := Lib.hid h0
        have HT := Lib.hid ht4
        clear h0 ht4
        have HR := Lib.hid hr4
        clear hr4
        by_cases hn : num false (l.drop 4) = 0
        · have e1 : decide (num false (l.drop 4) ≠ 0) = false := by simp [hn]
          rw [e1, hn] at H
          have HH := Lib.hid H
          have HN := Lib.hid hn
          clear H e1 hn
          go_enter Try.func6, Try.ntmps6
          go_wp2_with fail
          refine HH.out.mono ?_
          rintro e w1 ⟨rfl, hb1⟩
          go_wp2_with fail
          refine (specNumber_any false a0 l 8 cap0 4 hN.out (by omega) (by omega) w1 (hr.later hb1)).mono ?_
          rintro e w' ⟨rfl, rfl⟩
          rw [H0.out]
          go_wp2_with fail
          refine (specNumber_any false _ (l.drop 4) 4 _ 4 HD.out.symm (by omega) (by omega) w1 (HR.out.later hb1)).mono ?_
          rintro e w' ⟨rfl, rfl⟩
          rw [HT.out, HN.out]
          go_wp2_with fail
          refine (implNameOffset (some ⟨w1.heap.size, 0, none⟩) [0, 0, 0, 0, 1, 0, 0, 0] 8 rfl (by omega) _ (RB.new8 w1 0 0 0 0 1 0 0 0 _)).mono ?_
          rintro e w2 ⟨rfl, hb2⟩
          rw [show isOff [0, 0, 0, 0, 1, 0, 0, 0] = true from rfl, show offOf [0, 0, 0, 0, 1, 0, 0, 0] = 1 from rfl]
          have hb2 : Below w.heap.size w w2 := (hb1.alloc hb1.size _).trans (hb2.mono (by have := hb1.size; simp; omega))
          go_wp2_with fail
          refine (one_yes w2).mono ?_
          rintro e w' ⟨rfl, rfl⟩
          go_wp2
          go_ret
          exact ⟨rfl, hb2⟩
        · have e1 : decide (num false (l.drop 4) ≠ 0) = true := by simp [hn]
          rw [e1] at H
          have hne : (((num false (l.drop 4) : Nat) : Int) != 0) = true := by rw [bne_iff_ne]; omega
          have HH := Lib.hid H
          clear H e1 hn
          obtain ⟨N, hG⟩ : ∃ N, num false (l.drop 4) = N := ⟨_, rfl⟩
          have HG := Lib.hid hG
          rw [hG] at HH hne hlt
          clear hG
          go_enter Try.func6, Try.ntmps6
          go_wp2_with fail
          refine HH.out.mono ?_
          rintro e w1 ⟨rfl, hb1⟩
          go_wp2_with fail
          refine (specNumber_any false a0 l 8 cap0 4 hN.out (by omega) (by omega) w1 (hr.later hb1)).mono ?_
          rintro e w' ⟨rfl, rfl⟩
          rw [H0.out]
          go_wp2_with fail
          refine (specNumber_any false _ (l.drop 4) 4 _ 4 HD.out.symm (by omega) (by omega) w1 (HR.out.later hb1)).mono ?_
          rintro e w' ⟨rfl, rfl⟩
          rw [HT.out, HG.out]
          go_wp2_with fail
          refine (implNameOffset (some ⟨w1.heap.size, 0, none⟩) [0, 0, 0, 0, 1, 0, 0, 0] 8 rfl (by omega) _ (RB.new8 w1 0 0 0 0 1 0 0 0 _)).mono ?_
          rintro e w2 ⟨rfl, hb2⟩
          rw [show isOff [0, 0, 0, 0, 1, 0, 0, 0] = true from rfl, show offOf [0, 0, 0, 0, 1, 0, 0, 0] = 1 from rfl]
          have hb2 : Below w.heap.size w w2 := (hb1.alloc hb1.size _).trans (hb2.mono (by have := hb1.size; simp; omega))
          go_wp2_with fail
          refine (one_yes w2).mono ?_
          rintro e w' ⟨rfl, rfl⟩
          go_wp2
          go_ret
          exact ⟨rfl, hb2⟩
      · rw [if_neg h0] at hz
        have hi : isOff l = false := by unfold isOff; rw [hz]; rfl
        rw [hi, hz] at H
        have hne : (((num false (l.take 4) : Nat) : Int) != 0) = true := by rw [bne_iff_ne]; omega
        have HH := Lib.hid H
        clear H hz hi ht4
        go_enter Try.func6, Try.ntmps6
        go_wp2_with fail
        refine HH.out.mono ?_
        rintro e w1 ⟨rfl, hb1⟩
        go_wp2_with fail
        refine (specNumber_any false a0 l 8 cap0 4 hN.out (by omega) (by omega) w1 (hr.later hb1)).mono ?_
        rintro e w' ⟨rfl, rfl⟩
        go_wp2
        go_ret
        exact ⟨rfl, hb1⟩
    · have g1 : ((len0 : Int) != 8) = true := by rw [bne_iff_ne]; omega
      clear hl
      go_enter Try.func6, Try.ntmps6
      go_wp2_with fail
      refine (implNameOffset_bad a0 len0 cap0 h8 w).mono ?_
      rintro e w' ⟨rfl, rfl⟩
      go_wp2
      go_ret
      exact ⟨rfl, Below.refl _ _⟩
  · clear hl
    go_enter Try.func6, Try.ntmps6
    go_wp2
    all_goals (go_ret; exact ⟨rfl, Below.refl _ _⟩)

end Go.Proofs.Ythnlimhpnonnmaa
