/-
  The bytes of a number as the reference writes them: its contract.
-/
import Derived.Test.YtbpebngjpecncaaGreatDoorNum
namespace Go.Proofs.YtbpebngjpecncaaGreatDoor
set_option linter.unusedVariables false
set_option linter.unusedSimpArgs false
set_option maxRecDepth 100000
open Go Go.RowKit

/-- Byte number j of a number, from the lowest on. -/
def byteAt (v j : Nat) : UInt8 := UInt8.ofNat (v / 256 ^ j % 256)
/-- So many bytes of a number, by the order of the bytes. -/
def mkBytes (big : Bool) (W v : Nat) : List UInt8 := (List.range W).map fun k => byteAt v (if big then W - 1 - k else k)
theorem mkBytes_length (big : Bool) (W v : Nat) : (mkBytes big W v).length = W := by simp [mkBytes]
theorem byteAt_toNat (v j : Nat) : (byteAt v j).toNat = v / 256 ^ j % 256 := by
  unfold byteAt
  rw [UInt8.toNat_ofNat_of_lt' (by show _ < 256; omega)]

theorem byteAt_int (v j : Nat) : (v : Int) / 2 ^ (8 * j) % 256 = ((byteAt v j).toNat : Int) := by
  rw [byteAt_toNat]
  have e : (256 : Nat) ^ j = 2 ^ (8 * j) := by rw [Nat.pow_mul]
  have ec : ((2 : Int) ^ (8 * j)) = ((2 ^ (8 * j) : Nat) : Int) := by norm_cast
  rw [e, ec, Int.natCast_emod, Int.natCast_ediv]
  rfl

set_option maxHeartbeats 1000000 in
theorem specBytes_le (W v : Nat) (h8 : W ≤ 8) (hv : v ≤ 18446744073709551615) (w : World) :
    Calls Tryz.prog 18 #[.bool false, .int .i64 W, .int .u64 v] w fun e w' => (∃ u, e = .returned u ∧ w'.ownsRow w.heap.size 5 1 u W ((mkBytes false W v).map bv)) ∧ Below w.heap.size w w' := by
  go_enter Tryz.func18, Tryz.ntmps18
  go_wp2
  go_loopw [7, 8, 11] (fun u _ i wr => ∃ k : Nat, k ≤ W ∧ i = .int .i64 k ∧ wr.ownsRow w.heap.size 5 1 u k (((List.range k).map fun k => byteAt v k).map bv) ∧ Below w.heap.size w wr) (fun _ _ i _ => W - (intOf i).toNat)
  case atStart => exact ⟨0, Nat.zero_le _, rfl, owns_new _ (Nat.le_refl _), (Below.refl _ _).alloc (Nat.le_refl _) _⟩
  case round =>
    obtain ⟨k, hk, rfl, hown, hb⟩ := hrel
    have hz := hb.size
    by_cases hkW : k < W
    · go_wp2_with (at_builtin; refine Stop.mk ?_)
      refine Stop.go ?_
      refine wpList_append_bytes Tryz.underlying34 Tryz.infoByte rfl (.tmp 26) (.tmp 32) rfl w.heap.size _ k _ rfl (hown.alloc _) (some ⟨wr.heap.size, 0, none⟩) 1 1 [byteAt v k] rfl rfl (by rw [byteAt_int]; exact RB.new1 wr _ _) (by omega) (by simp; omega) ?_
      intro v1 w1 hown1 hg1 hat1
      have hb1 : Below w.heap.size w w1 := (hb.alloc hz _).grown hg1 (by simp; omega) (fun j hj => (hown.lt j hj).1)
      have e1 : ((List.range k).map fun k => byteAt v k) ++ [byteAt v k] = (List.range (k + 1)).map fun k => byteAt v k := by simp [List.range_succ]
      rw [e1] at hown1
      clear hg1 hat1 hown hb
      go_wp2
      go_roundw
      case rel => exact ⟨k + 1, by omega, by go_num, hown1, hb1⟩
      case measure => simp [intOf]; omega
    · obtain rfl : k = W := by omega
      go_wp2
      go_ret
      exact ⟨⟨_, rfl, hown⟩, hb⟩

set_option maxHeartbeats 1000000 in
theorem specBytes_be (W v : Nat) (h8 : W ≤ 8) (hv : v ≤ 18446744073709551615) (w : World) :
    Calls Tryz.prog 18 #[.bool true, .int .i64 W, .int .u64 v] w fun e w' => (∃ u, e = .returned u ∧ w'.ownsRow w.heap.size 5 1 u W ((mkBytes true W v).map bv)) ∧ Below w.heap.size w w' := by
  go_enter Tryz.func18, Tryz.ntmps18
  go_wp2
  go_loopw [7, 8, 11] (fun u _ i wr => ∃ k : Nat, k ≤ W ∧ i = .int .i64 k ∧ wr.ownsRow w.heap.size 5 1 u k (((List.range k).map fun k => byteAt v (W - 1 - k)).map bv) ∧ Below w.heap.size w wr) (fun _ _ i _ => W - (intOf i).toNat)
  case atStart => exact ⟨0, Nat.zero_le _, rfl, owns_new _ (Nat.le_refl _), (Below.refl _ _).alloc (Nat.le_refl _) _⟩
  case round =>
    obtain ⟨k, hk, rfl, hown, hb⟩ := hrel
    have hz := hb.size
    by_cases hkW : k < W
    · go_wp2_with (at_builtin; refine Stop.mk ?_)
      refine Stop.go ?_
      refine wpList_append_bytes Tryz.underlying34 Tryz.infoByte rfl (.tmp 15) (.tmp 24) rfl w.heap.size _ k _ rfl (hown.alloc _) (some ⟨wr.heap.size, 0, none⟩) 1 1 [byteAt v (W - 1 - k)] rfl rfl (by rw [byteAt_int]; exact RB.new1 wr _ _) (by omega) (by simp; omega) ?_
      intro v1 w1 hown1 hg1 hat1
      have hb1 : Below w.heap.size w w1 := (hb.alloc hz _).grown hg1 (by simp; omega) (fun j hj => (hown.lt j hj).1)
      have e1 : ((List.range k).map fun k => byteAt v (W - 1 - k)) ++ [byteAt v (W - 1 - k)] = (List.range (k + 1)).map fun k => byteAt v (W - 1 - k) := by simp [List.range_succ]
      rw [e1] at hown1
      clear hg1 hat1 hown hb
      go_wp2
      go_roundw
      case rel => exact ⟨k + 1, by omega, by go_num, hown1, hb1⟩
      case measure => simp [intOf]; omega
    · obtain rfl : k = W := by omega
      go_wp2
      go_ret
      exact ⟨⟨_, rfl, hown⟩, hb⟩

theorem specBytes_any (big : Bool) (W v : Nat) (h8 : W ≤ 8) (hv : v ≤ 18446744073709551615) (w : World) :
    Calls Tryz.prog 18 #[.bool big, .int .i64 W, .int .u64 v] w fun e w' => (∃ u, e = .returned u ∧ w'.ownsRow w.heap.size 5 1 u W ((mkBytes big W v).map bv)) ∧ Below w.heap.size w w' := by
  cases big
  · exact specBytes_le W v h8 hv w
  · exact specBytes_be W v h8 hv w

theorem leNat_range : ∀ (W v : Nat), Lib.leNat ((List.range W).map fun k => byteAt v k) = v % 256 ^ W
  | 0, v => by simp [Lib.leNat, Nat.mod_one]
  | W + 1, v => by
    have h := leNat_range W (v / 256)
    have e : (List.range (W + 1)).map (fun k => byteAt v k) = byteAt v 0 :: (List.range W).map fun k => byteAt (v / 256) k := by
      rw [List.range_succ_eq_map, List.map_cons, List.map_map]
      congr 1
      apply List.map_congr_left
      intro k _
      simp only [Function.comp, byteAt, Nat.pow_succ, Nat.div_div_eq_div_mul, Nat.mul_comm]
    rw [e, Lib.leNat, h, byteAt_toNat]
    rw [Nat.pow_succ, Nat.mul_comm (256 ^ W) 256, Nat.mod_mul]
    simp
theorem mkBytes_rev (W v : Nat) : (mkBytes true W v).reverse = mkBytes false W v := by
  unfold mkBytes
  rw [← List.map_reverse]
  apply List.ext_getElem
  · simp
  · intro i h1 h2
    simp at h1 h2 ⊢
    congr 1
    omega
theorem num_mkBytes (big : Bool) (W v : Nat) : num big (mkBytes big W v) = v % 256 ^ W := by
  cases big
  · exact leNat_range W v
  · show Lib.beNat _ = _
    rw [Lib.beNat_eq, mkBytes_rev]
    exact leNat_range W v
end Go.Proofs.YtbpebngjpecncaaGreatDoor
