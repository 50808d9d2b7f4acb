/-
  The laws on numbers: what they come to.
-/
import Derived.Test.YtcdknbclhdllkaaNum
namespace Go.Proofs.Ytcdknbclhdllkaa
open Go Go.RowKit

set_option maxHeartbeats 400000 in
theorem order_any (big : Bool) (w : World) : Calls Try.prog 15 #[.bool big] w fun e w' => e = .returned (.int .u8 (ordn big)) ∧ w = w' := by
  cases big <;> (go_enter Try.func15, Try.ntmps15; go_wp2; go_ret; exact ⟨rfl, rfl⟩)

theorem num_take_lt (big : Bool) (l : List UInt8) (k : Nat) (hk : k ≤ l.length) : num big (l.take k) < 256 ^ k := by
  have := num_lt big (l.take k)
  rwa [List.length_take, Nat.min_eq_left hk] at this

set_option maxHeartbeats 400000 in
theorem implNumber2 (big : Bool) (A : Option Addr) (l : List UInt8) (n c : Nat) (hn : n = l.length) (hW : 2 ≤ n) (hb : n ≤ 2147483647) (w : World) (h : RB w A l) :
    Calls Try.prog 10 #[.bool big, .int .i64 2, .slice A n c] w fun e w' => e = .returned (.int .u64 (num big (l.take 2) : Nat)) ∧ Below w.heap.size w w' := by
  have hN := Lib.hid hn
  have hv := num_take_lt big l 2 (by omega)
  simp only [Nat.reducePow] at hv
  clear hn
  go_enter Try.func10, Try.ntmps10
  go_wp2_with fail
  refine (order_any big w).mono ?_
  rintro e w' ⟨rfl, rfl⟩
  go_wp2_with fail
  refine (copied_any A l n c hN.out hb w h).mono ?_
  rintro e w1 ⟨⟨v, rfl, hown⟩, hb1⟩
  obtain ⟨hl, A1, c1, rfl, hr1, hc1, _, _, _⟩ := RB.of_owns hown
  have hN1 := Lib.hid hl
  clear hl hown
  obtain ⟨b, o, rfl⟩ := hr1.addr (by rw [← hN.out]; omega)
  go_wp2_with fail
  refine (u16_RB big b o n c1 l w1 hr1 (by rw [← hN.out]; exact hW) hW hc1).mono ?_
  rintro e w' ⟨rfl, q, rfl⟩
  go_wp2
  go_ret
  exact ⟨rfl, below_drewN hb1 q⟩

set_option maxHeartbeats 400000 in
theorem implNumber4 (big : Bool) (A : Option Addr) (l : List UInt8) (n c : Nat) (hn : n = l.length) (hW : 4 ≤ n) (hb : n ≤ 2147483647) (w : World) (h : RB w A l) :
    Calls Try.prog 10 #[.bool big, .int .i64 4, .slice A n c] w fun e w' => e = .returned (.int .u64 (num big (l.take 4) : Nat)) ∧ Below w.heap.size w w' := by
  have hN := Lib.hid hn
  have hv := num_take_lt big l 4 (by omega)
  simp only [Nat.reducePow] at hv
  clear hn
  go_enter Try.func10, Try.ntmps10
  go_wp2_with fail
  refine (order_any big w).mono ?_
  rintro e w' ⟨rfl, rfl⟩
  go_wp2_with fail
  refine (copied_any A l n c hN.out hb w h).mono ?_
  rintro e w1 ⟨⟨v, rfl, hown⟩, hb1⟩
  obtain ⟨hl, A1, c1, rfl, hr1, hc1, _, _, _⟩ := RB.of_owns hown
  have hN1 := Lib.hid hl
  clear hl hown
  obtain ⟨b, o, rfl⟩ := hr1.addr (by rw [← hN.out]; omega)
  go_wp2_with fail
  refine (u32_RB big b o n c1 l w1 hr1 (by rw [← hN.out]; exact hW) hW hc1).mono ?_
  rintro e w' ⟨rfl, q, rfl⟩
  go_wp2
  go_ret
  exact ⟨rfl, below_drewN hb1 q⟩

set_option maxHeartbeats 400000 in
theorem implNumber8 (big : Bool) (A : Option Addr) (l : List UInt8) (n c : Nat) (hn : n = l.length) (hW : 8 ≤ n) (hb : n ≤ 2147483647) (w : World) (h : RB w A l) :
    Calls Try.prog 10 #[.bool big, .int .i64 8, .slice A n c] w fun e w' => e = .returned (.int .u64 (num big (l.take 8) : Nat)) ∧ Below w.heap.size w w' := by
  have hN := Lib.hid hn
  have hv := num_take_lt big l 8 (by omega)
  simp only [Nat.reducePow] at hv
  clear hn
  go_enter Try.func10, Try.ntmps10
  go_wp2_with fail
  refine (order_any big w).mono ?_
  rintro e w' ⟨rfl, rfl⟩
  go_wp2_with fail
  refine (copied_any A l n c hN.out hb w h).mono ?_
  rintro e w1 ⟨⟨v, rfl, hown⟩, hb1⟩
  obtain ⟨hl, A1, c1, rfl, hr1, hc1, _, _, _⟩ := RB.of_owns hown
  have hN1 := Lib.hid hl
  clear hl hown
  obtain ⟨b, o, rfl⟩ := hr1.addr (by rw [← hN.out]; omega)
  go_wp2_with fail
  refine (u64_RB big b o n c1 l w1 hr1 (by rw [← hN.out]; exact hW) hW hc1).mono ?_
  rintro e w' ⟨rfl, q, rfl⟩
  go_wp2
  go_ret
  exact ⟨rfl, below_drewN hb1 q⟩


theorem bounds_u8 {n : Int} (h : (Lit.int .u8 n).wf = true) : 0 ≤ n ∧ n ≤ 255 := byte_of_wf h
theorem three (n : Int) (h : 0 ≤ n) : n % 3 = 0 ∨ n % 3 = 1 ∨ n % 3 = 2 := by omega

set_option maxHeartbeats 2000000 in
theorem law_FnNumber (a0 : Bool) (a1 : Int) (a2 : Option Addr) (len2 cap2 : Nat) (z2 : List Int) (w : World) (w1 : (Lit.int .u8 a1).wf = true) (w2 : IsRow .u8 w a2 len2 cap2 z2) :
    Calls Try.prog 5 #[.bool a0, .int .u8 a1, .slice a2 len2 cap2] w fun e w' => e = .returned (.bool true) ∧ Below w.heap.size w w' := by
  obtain ⟨l, hl, hr, hc, hm⟩ := w2.bytes
  obtain ⟨k0, k1⟩ := bounds_u8 w1
  have hN := Lib.hid hl
  clear hl w2 w1
  by_cases hb : len2 ≤ 1048576
  · rcases three a1 k0 with h3 | h3 | h3
    · by_cases hW : 2 ≤ len2
      · have g1 : decide ((len2 : Int) < 2) = false := by simp; omega
        go_enter Try.func5, Try.ntmps5
        go_wp2_with fail
        refine (implNumber2 a0 a2 l len2 cap2 hN.out hW (by omega) _ (hr.later ((Below.refl _ _).alloc (Nat.le_refl _) _))).mono ?_
        rintro e v1 ⟨rfl, hb1⟩
        have hb1 : Below w.heap.size w v1 := ((Below.refl _ _).alloc (Nat.le_refl _) _).trans (hb1.mono (by simp))
        go_wp2_with fail
        refine (specNumber_any a0 a2 l len2 cap2 2 hN.out hW (by omega) v1 (hr.later hb1)).mono ?_
        rintro e w' ⟨rfl, rfl⟩
        go_wp2
        go_ret
        exact ⟨by simp, hb1⟩
      · have g1 : decide ((len2 : Int) < 2) = true := by simp; omega
        go_enter Try.func5, Try.ntmps5
        go_wp2
        go_ret
        exact ⟨rfl, (Below.refl _ _).alloc (Nat.le_refl _) _⟩
    · by_cases hW : 4 ≤ len2
      · have g1 : decide ((len2 : Int) < 4) = false := by simp; omega
        go_enter Try.func5, Try.ntmps5
        go_wp2_with fail
        refine (implNumber4 a0 a2 l len2 cap2 hN.out hW (by omega) _ (hr.later ((Below.refl _ _).alloc (Nat.le_refl _) _))).mono ?_
        rintro e v1 ⟨rfl, hb1⟩
        have hb1 : Below w.heap.size w v1 := ((Below.refl _ _).alloc (Nat.le_refl _) _).trans (hb1.mono (by simp))
        go_wp2_with fail
        refine (specNumber_any a0 a2 l len2 cap2 4 hN.out hW (by omega) v1 (hr.later hb1)).mono ?_
        rintro e w' ⟨rfl, rfl⟩
        go_wp2
        go_ret
        exact ⟨by simp, hb1⟩
      · have g1 : decide ((len2 : Int) < 4) = true := by simp; omega
        go_enter Try.func5, Try.ntmps5
        go_wp2
        go_ret
        exact ⟨rfl, (Below.refl _ _).alloc (Nat.le_refl _) _⟩
    · by_cases hW : 8 ≤ len2
      · have g1 : decide ((len2 : Int) < 8) = false := by simp; omega
        go_enter Try.func5, Try.ntmps5
        go_wp2_with fail
        refine (implNumber8 a0 a2 l len2 cap2 hN.out hW (by omega) _ (hr.later ((Below.refl _ _).alloc (Nat.le_refl _) _))).mono ?_
        rintro e v1 ⟨rfl, hb1⟩
        have hb1 : Below w.heap.size w v1 := ((Below.refl _ _).alloc (Nat.le_refl _) _).trans (hb1.mono (by simp))
        go_wp2_with fail
        refine (specNumber_any a0 a2 l len2 cap2 8 hN.out hW (by omega) v1 (hr.later hb1)).mono ?_
        rintro e w' ⟨rfl, rfl⟩
        go_wp2
        go_ret
        exact ⟨by simp, hb1⟩
      · have g1 : decide ((len2 : Int) < 8) = true := by simp; omega
        go_enter Try.func5, Try.ntmps5
        go_wp2
        go_ret
        exact ⟨rfl, (Below.refl _ _).alloc (Nat.le_refl _) _⟩
  · go_enter Try.func5, Try.ntmps5
    go_wp2
    all_goals (go_ret; exact ⟨rfl, Below.refl _ _⟩)
end Go.Proofs.Ytcdknbclhdllkaa
