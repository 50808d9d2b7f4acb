/-
  The laws on numbers written and read back, and on numbers turned: what they come to.
-/
import Derived.Test.YtcdknbclhdllkaaNumLaws
import Derived.Test.YtcdknbclhdllkaaBytes
namespace Go.Proofs.Ytcdknbclhdllkaa
open Go Go.RowKit
attribute [local go_sem ↓] Go.wp_at_zero Go.wp_at_succ

theorem bounds_u64 {n : Int} (h : (Lit.int .u64 n).wf = true) : 0 ≤ n ∧ n ≤ 18446744073709551615 := by
  simp [Lit.wf, IntKind.min, IntKind.max, IntKind.signed, IntKind.bits] at h
  omega

theorem ret_true {a : Bool} (h : a = true) : Ending.returned (.bool a) = .returned (.bool true) := by rw [h]

set_option maxRecDepth 100000 in
set_option maxHeartbeats 2000000 in
theorem numberBack2 (a0 : Bool) (a1 : Int) (v : Nat) (h3 : a1 % 3 = 0) (k0 : 0 ≤ a1) (k1 : a1 ≤ 255) (HV : Hid (v ≤ 18446744073709551615)) (w : World) :
    Calls Try.prog 6 #[.bool a0, .int .u8 a1, .int .u64 v] w fun e w' => e = .returned (.bool true) ∧ Below w.heap.size w w' := by
  have e1 : IntKind.i64.wrap 16 = 16 := IntWalk.i64_in _ (by omega)
  have e2 : IntKind.i64.wrap 48 = 48 := IntWalk.i64_in _ (by omega)
  obtain ⟨S1, hS1⟩ : ∃ S1 : Int, S1 = IntKind.u64.wrap ((v : Int) * 2 ^ 48) := ⟨_, rfl⟩
  obtain ⟨S2, hS2⟩ : ∃ S2 : Int, S2 = S1 / 2 ^ 48 := ⟨_, rfl⟩
  have hshl : Op.shift .shl .u64 (v : Int) .i64 48 = pure (.int .u64 S1) := by rw [hS1]; exact shift_shl_u64 _ _ _ (by omega) (by omega)
  have hshr : Op.shift .shr .u64 S1 .i64 48 = pure (.int .u64 S2) := by rw [hS2]; exact shift_shr_u64 _ _ _ (by omega) (by omega)
  have E : Hid (((num a0 (List.take 2 (mkBytes a0 2 v)) : Nat) : Int) = S2) := Lib.hid (by
    have hv := HV.out
    rw [List.take_of_length_le (by rw [mkBytes_length]; omega), num_mkBytes, hS2, hS1, IntKind.wrap_u64]
    simp only [Nat.reducePow, Int.reducePow]
    omega)
  clear hS1 hS2
  go_enter Try.func6, Try.ntmps6
  go_wp2
  go_region_held3 (fun _ => True) (trivial) (first
    | (go_at_call 12; refine (specBytes_any a0 2 v (by omega) HV.out _).mono ?_; rintro e w1 ⟨⟨u, rfl, hown⟩, hb1⟩; obtain ⟨hl, A1, c1, rfl, hr1, hc1, _, _, _⟩ := RB.of_owns hown; have hL := Lib.hid hl; clear hl hown)
    | (go_at_call 10; refine (implNumber2 a0 A1 _ 2 c1 hL.out (by omega) (by omega) _ hr1).mono ?_; rintro e w2 ⟨rfl, hb2⟩))
  go_wp2
  go_ret
  refine ⟨ret_true (by rw [E.out]; simp), ?_⟩
  have hz1 := hb1.size
  have hz2 := hb2.size
  simp at hz1 hz2
  refine Below.trans ?_ (hb2.mono (by omega))
  refine Below.trans ?_ (hb1.mono (by simp))
  first | exact ((Below.refl _ _).alloc (Nat.le_refl _) _).drew | exact (Below.refl _ _).alloc (Nat.le_refl _) _

set_option maxRecDepth 100000 in
set_option maxHeartbeats 2000000 in
theorem numberBack4 (a0 : Bool) (a1 : Int) (v : Nat) (h3 : a1 % 3 = 1) (k0 : 0 ≤ a1) (k1 : a1 ≤ 255) (HV : Hid (v ≤ 18446744073709551615)) (w : World) :
    Calls Try.prog 6 #[.bool a0, .int .u8 a1, .int .u64 v] w fun e w' => e = .returned (.bool true) ∧ Below w.heap.size w w' := by
  have e1 : IntKind.i64.wrap 32 = 32 := IntWalk.i64_in _ (by omega)
  have e2 : IntKind.i64.wrap 32 = 32 := IntWalk.i64_in _ (by omega)
  obtain ⟨S1, hS1⟩ : ∃ S1 : Int, S1 = IntKind.u64.wrap ((v : Int) * 2 ^ 32) := ⟨_, rfl⟩
  obtain ⟨S2, hS2⟩ : ∃ S2 : Int, S2 = S1 / 2 ^ 32 := ⟨_, rfl⟩
  have hshl : Op.shift .shl .u64 (v : Int) .i64 32 = pure (.int .u64 S1) := by rw [hS1]; exact shift_shl_u64 _ _ _ (by omega) (by omega)
  have hshr : Op.shift .shr .u64 S1 .i64 32 = pure (.int .u64 S2) := by rw [hS2]; exact shift_shr_u64 _ _ _ (by omega) (by omega)
  have E : Hid (((num a0 (List.take 4 (mkBytes a0 4 v)) : Nat) : Int) = S2) := Lib.hid (by
    have hv := HV.out
    rw [List.take_of_length_le (by rw [mkBytes_length]; omega), num_mkBytes, hS2, hS1, IntKind.wrap_u64]
    simp only [Nat.reducePow, Int.reducePow]
    omega)
  clear hS1 hS2
  go_enter Try.func6, Try.ntmps6
  go_wp2
  go_region_held3 (fun _ => True) (trivial) (first
    | (go_at_call 12; refine (specBytes_any a0 4 v (by omega) HV.out _).mono ?_; rintro e w1 ⟨⟨u, rfl, hown⟩, hb1⟩; obtain ⟨hl, A1, c1, rfl, hr1, hc1, _, _, _⟩ := RB.of_owns hown; have hL := Lib.hid hl; clear hl hown)
    | (go_at_call 10; refine (implNumber4 a0 A1 _ 4 c1 hL.out (by omega) (by omega) _ hr1).mono ?_; rintro e w2 ⟨rfl, hb2⟩))
  go_wp2
  go_ret
  refine ⟨ret_true (by rw [E.out]; simp), ?_⟩
  have hz1 := hb1.size
  have hz2 := hb2.size
  simp at hz1 hz2
  refine Below.trans ?_ (hb2.mono (by omega))
  refine Below.trans ?_ (hb1.mono (by simp))
  first | exact ((Below.refl _ _).alloc (Nat.le_refl _) _).drew | exact (Below.refl _ _).alloc (Nat.le_refl _) _

set_option maxRecDepth 100000 in
set_option maxHeartbeats 2000000 in
theorem numberBack8 (a0 : Bool) (a1 : Int) (v : Nat) (h3 : a1 % 3 = 2) (k0 : 0 ≤ a1) (k1 : a1 ≤ 255) (HV : Hid (v ≤ 18446744073709551615)) (w : World) :
    Calls Try.prog 6 #[.bool a0, .int .u8 a1, .int .u64 v] w fun e w' => e = .returned (.bool true) ∧ Below w.heap.size w w' := by
  have e1 : IntKind.i64.wrap 64 = 64 := IntWalk.i64_in _ (by omega)
  have e2 : IntKind.i64.wrap 0 = 0 := IntWalk.i64_in _ (by omega)
  obtain ⟨S1, hS1⟩ : ∃ S1 : Int, S1 = IntKind.u64.wrap ((v : Int) * 2 ^ 0) := ⟨_, rfl⟩
  obtain ⟨S2, hS2⟩ : ∃ S2 : Int, S2 = S1 / 2 ^ 0 := ⟨_, rfl⟩
  have hshl : Op.shift .shl .u64 (v : Int) .i64 0 = pure (.int .u64 S1) := by rw [hS1]; exact shift_shl_u64 _ _ _ (by omega) (by omega)
  have hshr : Op.shift .shr .u64 S1 .i64 0 = pure (.int .u64 S2) := by rw [hS2]; exact shift_shr_u64 _ _ _ (by omega) (by omega)
  have E : Hid (((num a0 (List.take 8 (mkBytes a0 8 v)) : Nat) : Int) = S2) := Lib.hid (by
    have hv := HV.out
    rw [List.take_of_length_le (by rw [mkBytes_length]; omega), num_mkBytes, hS2, hS1, IntKind.wrap_u64]
    simp only [Nat.reducePow, Int.reducePow]
    omega)
  clear hS1 hS2
  go_enter Try.func6, Try.ntmps6
  go_wp2
  go_region_held3 (fun _ => True) (trivial) (first
    | (go_at_call 12; refine (specBytes_any a0 8 v (by omega) HV.out _).mono ?_; rintro e w1 ⟨⟨u, rfl, hown⟩, hb1⟩; obtain ⟨hl, A1, c1, rfl, hr1, hc1, _, _, _⟩ := RB.of_owns hown; have hL := Lib.hid hl; clear hl hown)
    | (go_at_call 10; refine (implNumber8 a0 A1 _ 8 c1 hL.out (by omega) (by omega) _ hr1).mono ?_; rintro e w2 ⟨rfl, hb2⟩))
  go_wp2
  go_ret
  refine ⟨ret_true (by rw [E.out]; simp), ?_⟩
  have hz1 := hb1.size
  have hz2 := hb2.size
  simp at hz1 hz2
  refine Below.trans ?_ (hb2.mono (by omega))
  refine Below.trans ?_ (hb1.mono (by simp))
  first | exact ((Below.refl _ _).alloc (Nat.le_refl _) _).drew | exact (Below.refl _ _).alloc (Nat.le_refl _) _

theorem law_FnNumberBack (a0 : Bool) (a1 : Int) (a2 : Int) (w1 : (Lit.int .u8 a1).wf = true) (w2 : (Lit.int .u64 a2).wf = true) (w : World) :
    Calls Try.prog 6 #[.bool a0, .int .u8 a1, .int .u64 a2] w fun e w' => e = .returned (.bool true) ∧ Below w.heap.size w w' := by
  obtain ⟨k0, k1⟩ := bounds_u8 w1
  obtain ⟨v0, v1⟩ := bounds_u64 w2
  obtain ⟨v, rfl⟩ := Int.eq_ofNat_of_zero_le v0
  have HV := Lib.hid (show v ≤ 18446744073709551615 by omega)
  rcases three a1 k0 with h3 | h3 | h3
  · exact numberBack2 a0 a1 v h3 k0 k1 HV w
  · exact numberBack4 a0 a1 v h3 k0 k1 HV w
  · exact numberBack8 a0 a1 v h3 k0 k1 HV w
end Go.Proofs.Ytcdknbclhdllkaa
