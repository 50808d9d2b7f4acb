/-
  The number in the first bytes as the reference reckons it: its contract.
-/
import Derived.Test.YtbpebngjpecncaaGreatDoorText
import Derived.Test.YtbpebngjpecncaaGreatDoorOrd
namespace Go.Proofs.YtbpebngjpecncaaGreatDoor
set_option linter.unusedVariables false
set_option linter.unusedSimpArgs false
set_option maxRecDepth 100000
open Go Go.RowKit

theorem num_nil (big : Bool) : num big [] = 0 := by cases big <;> rfl
theorem num_one (big : Bool) (x : UInt8) : num big [x] = x.toNat := by cases big <;> simp [num, Lib.beNat, Lib.beFrom, Lib.leNat]
theorem num_snoc_be (l : List UInt8) (x : UInt8) : num true (l ++ [x]) = num true l * 256 + x.toNat := by
  rw [num_append, num_one]; rfl
theorem num_snoc_le (l : List UInt8) (x : UInt8) : num false (l ++ [x]) = num false l + 256 ^ l.length * x.toNat := by
  rw [num_append, num_one]; rfl
theorem take_snoc' (l : List UInt8) (k : Nat) (h : k < l.length) : l.take (k + 1) = l.take k ++ [l[k]] := by
  rw [List.take_succ_eq_append_getElem h]

theorem or_be (v x : Nat) (hx : x < 256) (hv : v < 72057594037927936) : bits .or .u64 ((v : Int) * 256) (x : Int) = ((v * 256 + x : Nat) : Int) := by
  have h := bits_join .u64 64 (by decide) wraps_u64 8 ((v : Int) * 256) (x : Int) (by omega) (by omega) (by omega) (by omega) (by omega) (by omega)
  rw [h]
  omega

theorem or_le (v x k : Nat) (hx : x < 256) (hk : k ≤ 7) (hv : v < 256 ^ k) : bits .or .u64 (v : Int) (IntKind.u64.wrap ((x : Int) * 2 ^ (8 * k))) = ((v + 256 ^ k * x : Nat) : Int) := by
  have e : (256 : Nat) ^ k = 2 ^ (8 * k) := by rw [Nat.pow_mul]
  have hp : 2 ^ (8 * k) ≤ 2 ^ 56 := Nat.pow_le_pow_right (by omega) (by omega)
  have hm : x * 2 ^ (8 * k) ≤ 255 * 2 ^ 56 := Nat.mul_le_mul (by omega) hp
  have ec : ((2 : Int) ^ (8 * k)) = ((2 ^ (8 * k) : Nat) : Int) := by norm_cast
  have hn : (0 : Int) ≤ (x : Int) * 2 ^ (8 * k) := by rw [ec]; exact Int.mul_nonneg (by omega) (by omega)
  have hu : (x : Int) * 2 ^ (8 * k) < 2 ^ 64 := by rw [ec, ← Int.natCast_mul]; omega
  rw [wraps_u64 _ hn hu]
  rw [e] at hv ⊢
  have h := bits_join_low .u64 64 (by decide) wraps_u64 (8 * k) (v : Int) ((x : Int) * 2 ^ (8 * k)) (by omega) (by rw [ec]; exact_mod_cast hv) (by omega)
    hn (Int.mul_emod_left _ _) hu
  rw [h, ec, ← Int.natCast_mul, Nat.mul_comm]
  omega

set_option maxHeartbeats 1000000 in
theorem specNumber_be (A : Option Addr) (l : List UInt8) (n c W : Nat) (hn : n = l.length) (hW : W ≤ n) (h8 : W ≤ 8) (w : World) (h : RB w A l) :
    Calls Tryz.prog 25 #[.bool true, .int .i64 W, .slice A n c] w fun e w' => e = .returned (.int .u64 (num true (l.take W) : Nat)) ∧ w = w' := by
  have hN := Lib.hid hn
  clear hn
  go_enter Tryz.func25, Tryz.ntmps25
  go_wp2
  go_loop [7, 8, 10] (fun v _ i => ∃ k : Nat, k ≤ W ∧ i = .int .i64 k ∧ v = .int .u64 (num true (l.take k) : Nat)) (fun _ _ i => W - (intOf i).toNat)
  case atStart => exact ⟨0, Nat.zero_le _, rfl, by simp [num_nil]⟩
  case round =>
    obtain ⟨k, hk, rfl, rfl⟩ := hrel
    by_cases hkW : k < W
    · have hkl : k < l.length := by rw [← hN.out]; omega
      obtain ⟨b, o, rfl⟩ := h.addr (by omega)
      have hcell := h.at hkl
      have hx := (l[k]).toNat_lt
      have hv := num_lt true (l.take k)
      have hlen : (l.take k).length = k := by simp; omega
      rw [hlen] at hv
      have hv' : num true (l.take k) < 72057594037927936 := Nat.lt_of_lt_of_le hv (show 256 ^ k ≤ 256 ^ 7 from Nat.pow_le_pow_right (by omega) (by omega))
      have E := Lib.hid (show num true (l.take (k + 1)) = num true (l.take k) * 256 + (l[k]).toNat by rw [take_snoc' l k hkl, num_snoc_be])
      clear hv hlen
      generalize num true (l.take k) = v at *
      generalize (l[k]).toNat = x at *
      go_wp2
      go_round
      case rel => exact ⟨k + 1, by omega, by go_num, by rw [E.out, or_be v x (by omega) hv']⟩
      case measure => simp [intOf]; omega
    · obtain rfl : k = W := by omega
      go_wp2
      go_ret
      exact ⟨rfl, rfl⟩
set_option maxHeartbeats 1000000 in
theorem specNumber_le (A : Option Addr) (l : List UInt8) (n c W : Nat) (hn : n = l.length) (hW : W ≤ n) (h8 : W ≤ 8) (w : World) (h : RB w A l) :
    Calls Tryz.prog 25 #[.bool false, .int .i64 W, .slice A n c] w fun e w' => e = .returned (.int .u64 (num false (l.take W) : Nat)) ∧ w = w' := by
  have hN := Lib.hid hn
  clear hn
  go_enter Tryz.func25, Tryz.ntmps25
  go_wp2
  go_loop [7, 8, 10] (fun v _ i => ∃ k : Nat, k ≤ W ∧ i = .int .i64 k ∧ v = .int .u64 (num false (l.take k) : Nat)) (fun _ _ i => W - (intOf i).toNat)
  case atStart => exact ⟨0, Nat.zero_le _, rfl, by simp [num_nil]⟩
  case round =>
    obtain ⟨k, hk, rfl, rfl⟩ := hrel
    by_cases hkW : k < W
    · have hkl : k < l.length := by rw [← hN.out]; omega
      obtain ⟨b, o, rfl⟩ := h.addr (by omega)
      have hcell := h.at hkl
      have hx := (l[k]).toNat_lt
      have hv := num_lt false (l.take k)
      have hlen : (l.take k).length = k := by simp; omega
      rw [hlen] at hv
      have hv2 : num false (l.take k) < 256 ^ k := hv
      have HV := Lib.hid hv2
      clear hv2
      have hv' : num false (l.take k) < 72057594037927936 := Nat.lt_of_lt_of_le hv (show 256 ^ k ≤ 256 ^ 7 from Nat.pow_le_pow_right (by omega) (by omega))
      have E := Lib.hid (show num false (l.take (k + 1)) = num false (l.take k) + 256 ^ k * (l[k]).toNat by rw [take_snoc' l k hkl, num_snoc_le, hlen])
      clear hv hlen
      generalize num false (l.take k) = v at *
      generalize (l[k]).toNat = x at *
      go_wp2
      go_round
      case rel => exact ⟨k + 1, by omega, by go_num, by rw [E.out, or_le v x k (by omega) (by omega) HV.out]⟩
      case measure => simp [intOf]; omega
    · obtain rfl : k = W := by omega
      go_wp2
      go_ret
      exact ⟨rfl, rfl⟩

theorem specNumber_any (big : Bool) (A : Option Addr) (l : List UInt8) (n c W : Nat) (hn : n = l.length) (hW : W ≤ n) (h8 : W ≤ 8) (w : World) (h : RB w A l) :
    Calls Tryz.prog 25 #[.bool big, .int .i64 W, .slice A n c] w fun e w' => e = .returned (.int .u64 (num big (l.take W) : Nat)) ∧ w = w' := by
  cases big
  · exact specNumber_le A l n c W hn hW h8 w h
  · exact specNumber_be A l n c W hn hW h8 w h
end Go.Proofs.YtbpebngjpecncaaGreatDoor
