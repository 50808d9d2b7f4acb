/-
  The walk of the law FnMachoRelocParts.
-/
import Derived.Test.YtmgmmdhaklokjaaDoorRelLaw2
namespace Go.Proofs.YtmgmmdhaklokjaaDoor
set_option linter.unusedVariables false
set_option linter.unusedSimpArgs false
open Go Go.RowKit
attribute [local go_sem ↓] Go.wp_at_zero Go.wp_at_succ

theorem or_lo (x y i : Nat) (hi : i ≤ 32) (hx : x < 2 ^ i) (hy : y % 2 ^ i = 0) (hb : y < 4294967296) : bits .or .u32 (x : Int) (y : Int) = ((x + y : Nat) : Int) := by
  have h2 : 2 ^ i ≤ 2 ^ 32 := Nat.pow_le_pow_right (by omega) hi
  have h3 : (2 : Nat) ^ 32 = 4294967296 := by decide
  have h := bits_join_low .u32 32 (by decide) wraps_u32 i (x : Int) (y : Int) (by omega) (by exact_mod_cast hx) (by omega) (by omega) (by exact_mod_cast hy) (by omega)
  rw [h]
  omega
theorem or_hi (x y i : Nat) (hi : i ≤ 32) (hy : y < 2 ^ i) (hx : x % 2 ^ i = 0) (hb : x < 4294967296) : bits .or .u32 (x : Int) (y : Int) = ((x + y : Nat) : Int) := by
  have h2 : 2 ^ i ≤ 2 ^ 32 := Nat.pow_le_pow_right (by omega) hi
  have h3 : (2 : Nat) ^ 32 = 4294967296 := by decide
  have h := bits_join .u32 32 (by decide) wraps_u32 i (x : Int) (y : Int) (by omega) (by exact_mod_cast hx) (by omega) (by omega) (by exact_mod_cast hy) (by omega)
  rw [h]
  omega

/-- A truth value as a number. -/
def bn (b : Bool) : Nat := if b then 1 else 0
theorem bn_le (b : Bool) : bn b ≤ 1 := by cases b <;> decide
theorem bn_test (b : Bool) (x k : Nat) (h : x / 2 ^ k % 2 = bn b) : x.testBit k = b := by
  rw [Nat.testBit_eq_decide_div_mod_eq, h]
  cases b <;> rfl

/-- The second word out of its parts. -/
def wordOf (big : Bool) (v p n e k : Nat) : Nat := if big then v * 256 + p * 128 + n * 32 + e * 16 + k else v + p * 16777216 + n * 33554432 + e * 134217728 + k * 268435456
theorem wordOf_lt (big : Bool) (v n k : Nat) (p e : Bool) (hv : v < 16777216) (hn : n < 4) (hk : k < 16) : wordOf big v (bn p) n (bn e) k < 4294967296 := by
  have := bn_le p
  have := bn_le e
  unfold wordOf
  split <;> omega
theorem relCells_parts (big : Bool) (a v n k : Nat) (p e : Bool) (ha : a < 2147483648) (hv : v < 16777216) (hn : n < 4) (hk : k < 16) :
    relCells big a (wordOf big v (bn p) n (bn e) k) = [.int .u32 (a : Int), .int .u32 (v : Int), .int .u8 (k : Int), .int .u8 (n : Int), .bool p, .bool e, .bool false] := by
  have h1 := bn_le p
  have h2 := bn_le e
  have hna : ¬ 2147483648 ≤ a := by omega
  unfold relCells
  rw [if_neg hna]
  cases big with
  | true =>
    have t1 : (wordOf true v (bn p) n (bn e) k).testBit 7 = p := bn_test p _ 7 (by simp only [wordOf, if_true]; omega)
    have t2 : (wordOf true v (bn p) n (bn e) k).testBit 4 = e := bn_test e _ 4 (by simp only [wordOf, if_true]; omega)
    have d1 : wordOf true v (bn p) n (bn e) k / 256 = v := by simp only [wordOf, if_true]; omega
    have d2 : wordOf true v (bn p) n (bn e) k % 16 = k := by simp only [wordOf, if_true]; omega
    have d3 : wordOf true v (bn p) n (bn e) k / 32 % 4 = n := by simp only [wordOf, if_true]; omega
    simp only [if_true, t1, t2, d1, d2, d3]
  | false =>
    have t1 : (wordOf false v (bn p) n (bn e) k).testBit 24 = p := bn_test p _ 24 (by simp only [wordOf, Bool.false_eq_true, if_false]; omega)
    have t2 : (wordOf false v (bn p) n (bn e) k).testBit 27 = e := bn_test e _ 27 (by simp only [wordOf, Bool.false_eq_true, if_false]; omega)
    have d1 : wordOf false v (bn p) n (bn e) k % 16777216 = v := by simp only [wordOf, Bool.false_eq_true, if_false]; omega
    have d2 : wordOf false v (bn p) n (bn e) k / 268435456 % 16 = k := by simp only [wordOf, Bool.false_eq_true, if_false]; omega
    have d3 : wordOf false v (bn p) n (bn e) k / 33554432 % 4 = n := by simp only [wordOf, Bool.false_eq_true, if_false]; omega
    simp only [Bool.false_eq_true, if_false, t1, t2, d1, d2, d3]
theorem and_mask31 (x : Nat) (hx : x < 4294967296) : bits .and .u32 (x : Int) 2147483647 = ((x % 2147483648 : Nat) : Int) := by
  have h := u32_and_nat x (2 ^ 31 - 1) hx (by omega)
  rw [Nat.and_two_pow_sub_one_eq_mod] at h
  exact h

set_option maxRecDepth 100000 in
set_option maxHeartbeats 4000000 in
theorem lawParts (big : Bool) (addr value kind size : Nat) (pc ex : Bool) (w : World) (ha : addr < 4294967296) (hv : value < 4294967296) (hk : kind < 256) (hs : size < 256) (h3 : 3 ≤ w.heap.size) (TE TU : TypeId) (vE vU : Value) (hErr : Hid (ErrsAt w TE TU vE vU)) :
    Calls Tryd.prog 5 #[.bool big, .int .u32 addr, .int .u32 value, .int .u8 kind, .int .u8 size, .bool pc, .bool ex] w fun e w' => e = .returned (.bool true) ∧ Below w.heap.size w w' := by
  obtain ⟨v, hv0⟩ : ∃ v, v = value % 16777216 := ⟨_, rfl⟩
  obtain ⟨a, ha0⟩ : ∃ a, a = addr % 2147483648 := ⟨_, rfl⟩
  obtain ⟨k, hk0⟩ : ∃ k, k = kind % 16 := ⟨_, rfl⟩
  obtain ⟨n, hn0⟩ : ∃ n, n = size % 4 := ⟨_, rfl⟩
  have m1 : bits .and .u32 (addr : Int) 2147483647 = (a : Int) := by rw [and_mask31 addr ha, ha0]
  have m2 : bits .and .u32 (value : Int) 16777215 = (v : Int) := by rw [hv0]; exact and_mask value 24 hv (by omega)
  have m3 : (kind : Int) % 16 = (k : Int) := by omega
  have m4 : (size : Int) % 4 = (n : Int) := by omega
  have la : a < 2147483648 := by omega
  have lv : v < 16777216 := by omega
  have lk : k < 16 := by omega
  have ln : n < 4 := by omega
  have c1 : IntKind.u32.wrap (k : Int) = (k : Int) := IntWalk.u32_in _ (by omega)
  have c2 : IntKind.u32.wrap (n : Int) = (n : Int) := IntWalk.u32_in _ (by omega)
  have c3 : IntKind.u8.wrap (k : Int) = (k : Int) := by rw [IntKind.wrap_u8]; omega
  have c4 : IntKind.u8.wrap (n : Int) = (n : Int) := by rw [IntKind.wrap_u8]; omega
  have c5 : IntKind.u64.wrap (a : Int) = (a : Int) := IntWalk.u64_in _ (by omega)
  clear hv0 ha0 hk0 hn0
  cases big <;> cases pc <;> cases ex
  · obtain ⟨w1, hw1⟩ : ∃ w1, w1 = v + 0 := ⟨_, rfl⟩
    have o0 : bits .or .u32 (v : Int) (0 : Int) = (w1 : Int) := by rw [hw1]; exact or_lo (v) (0) 24 (by omega) (by omega) (by omega) (by omega)
    obtain ⟨w2, hw2⟩ : ∃ w2, w2 = w1 + n * 33554432 := ⟨_, rfl⟩
    have o1 : bits .or .u32 (w1 : Int) ((n : Int) * 33554432) = (w2 : Int) := by rw [hw2]; exact or_lo (w1) (n * 33554432) 25 (by omega) (by omega) (by omega) (by omega)
    obtain ⟨w3, hw3⟩ : ∃ w3, w3 = w2 + 0 := ⟨_, rfl⟩
    have o2 : bits .or .u32 (w2 : Int) (0 : Int) = (w3 : Int) := by rw [hw3]; exact or_lo (w2) (0) 27 (by omega) (by omega) (by omega) (by omega)
    obtain ⟨w4, hw4⟩ : ∃ w4, w4 = w3 + k * 268435456 := ⟨_, rfl⟩
    have o3 : bits .or .u32 (w3 : Int) ((k : Int) * 268435456) = (w4 : Int) := by rw [hw4]; exact or_lo (w3) (k * 268435456) 28 (by omega) (by omega) (by omega) (by omega)
    have hwd : w4 = wordOf false v (bn false) n (bn false) k := by simp only [wordOf, bn, if_true, Bool.false_eq_true, if_false]; omega
    have hcs := relCells_parts false a v n k false false la lv ln lk
    have hlt4 := wordOf_lt false v n k false false lv ln lk
    rw [← hwd] at hcs hlt4
    have c6 : IntKind.u64.wrap (w4 : Int) = (w4 : Int) := IntWalk.u64_in _ (by omega)
    replace hcs := Lib.hid hcs
    clear hw1 hw2 hw3 hw4 hwd
    go_enter Tryd.func5, Tryd.ntmps5
    go_wp2_with fail
    refine (bytes4 false a (by omega) w).mono ?_
    rintro e w5 ⟨⟨A1, d1, rfl, own1⟩, b1⟩
    have hz1 := b1.size
    go_wp2_with fail
    refine (bytes4 false w4 hlt4 w5).mono ?_
    rintro e w6 ⟨⟨A2, d2, rfl, own2⟩, b2⟩
    have own1' := Lib.hid (owns_later own1.out b2)
    have b12 := Lib.hid (b1.trans (b2.mono hz1))
    have hz2 := b12.out.size
    obtain ⟨-, A2', c2', e2, R2, -, -, -, -⟩ := RB.of_owns own2.out
    simp only [Value.slice.injEq] at e2
    obtain ⟨rfl, -, rfl⟩ := e2
    have hl2 := Lib.hid (mkBytes_length false 4 w4)
    clear own1 own2 b1 b2
    go_wp2_with (at_builtin; refine Stop.mk ?_)
    refine Stop.go ?_
    refine wpList_append_bytes Tryd.underlying23 Tryd.infoByte rfl (.tmp 66) (.tmp 70) rfl w.heap.size _ 4 (mkBytes false 4 a) rfl own1'.out A2 4 d2 (mkBytes false 4 w4) rfl hl2.out.symm R2 (by omega) hz2 ?_
    intro v3 w7 own3 g3 at3
    have b3 := Lib.hid (b12.out.grown g3 hz2 (fun q hq => (own1'.out.lt q hq).1))
    have hz3 := b3.out.size
    obtain ⟨-, A3, d3, rfl, R3, hc3, -, -, -⟩ := RB.of_owns own3
    have E3 := Lib.hid (hErr.out.chg (Chg.of_below (S := fun k => w.heap.size ≤ k) b3.out (fun k _ h => h)) (by omega) (by omega))
    have htw : mkBytes false 4 a ++ mkBytes false 4 w4 = twoWords false a w4 := rfl
    rw [htw] at R3
    have CALL := Lib.hid (implRelocs_any false 1 A3 (twoWords false a w4) 8 d3 w7 (by omega) (Lib.hid (twoWords_len false a w4).symm) (by omega) R3 (by omega) TE TU vE vU E3)
    have ta := twoWords_a false a w4 (by omega)
    have tb := twoWords_b false a w4 hlt4
    clear own3 g3 at3 own1' R2 R3 E3 htw b12
    go_wp2_with fail
    refine CALL.out.mono ?_
    rintro e w8 ⟨hp, b4⟩
    have b5 := Lib.hid (b3.out.trans (b4.mono hz3))
    clear b4 CALL
    rcases hp with ⟨-, v, rfl, own4⟩ | ⟨h, -, -⟩
    · obtain ⟨G, d4, rfl, hG⟩ := rels_at own4.out
      obtain ⟨g, rfl, -, hlt, hcl⟩ := hG 0 (by omega)
      rw [ta, tb, hcs.out] at hcl
      clear ta tb own4 hG
      have e0 : w8.cell? ⟨g, 0, none⟩ = some (.int .u32 (a : Int)) := hcl 0 _ rfl
      have e1 : w8.cell? ⟨g, 1, none⟩ = some (.int .u32 (v : Int)) := hcl 1 _ rfl
      have e2 : w8.cell? ⟨g, 2, none⟩ = some (.int .u8 (k : Int)) := hcl 2 _ rfl
      have e3 : w8.cell? ⟨g, 3, none⟩ = some (.int .u8 (n : Int)) := hcl 3 _ rfl
      have e4 : w8.cell? ⟨g, 4, none⟩ = some (.bool false) := hcl 4 _ rfl
      have e5 : w8.cell? ⟨g, 5, none⟩ = some (.bool false) := hcl 5 _ rfl
      have e6 : w8.cell? ⟨g, 6, none⟩ = some (.bool false) := hcl 6 _ rfl
      clear hcl
      go_wp2
      go_ret
      exact ⟨rfl, b5.out⟩
    · omega
  · obtain ⟨w1, hw1⟩ : ∃ w1, w1 = v + 0 := ⟨_, rfl⟩
    have o0 : bits .or .u32 (v : Int) (0 : Int) = (w1 : Int) := by rw [hw1]; exact or_lo (v) (0) 24 (by omega) (by omega) (by omega) (by omega)
    obtain ⟨w2, hw2⟩ : ∃ w2, w2 = w1 + n * 33554432 := ⟨_, rfl⟩
    have o1 : bits .or .u32 (w1 : Int) ((n : Int) * 33554432) = (w2 : Int) := by rw [hw2]; exact or_lo (w1) (n * 33554432) 25 (by omega) (by omega) (by omega) (by omega)
    obtain ⟨w3, hw3⟩ : ∃ w3, w3 = w2 + 134217728 := ⟨_, rfl⟩
    have o2 : bits .or .u32 (w2 : Int) (134217728 : Int) = (w3 : Int) := by rw [hw3]; exact or_lo (w2) (134217728) 27 (by omega) (by omega) (by omega) (by omega)
    obtain ⟨w4, hw4⟩ : ∃ w4, w4 = w3 + k * 268435456 := ⟨_, rfl⟩
    have o3 : bits .or .u32 (w3 : Int) ((k : Int) * 268435456) = (w4 : Int) := by rw [hw4]; exact or_lo (w3) (k * 268435456) 28 (by omega) (by omega) (by omega) (by omega)
    have hwd : w4 = wordOf false v (bn false) n (bn true) k := by simp only [wordOf, bn, if_true, Bool.false_eq_true, if_false]; omega
    have hcs := relCells_parts false a v n k false true la lv ln lk
    have hlt4 := wordOf_lt false v n k false true lv ln lk
    rw [← hwd] at hcs hlt4
    have c6 : IntKind.u64.wrap (w4 : Int) = (w4 : Int) := IntWalk.u64_in _ (by omega)
    replace hcs := Lib.hid hcs
    clear hw1 hw2 hw3 hw4 hwd
    go_enter Tryd.func5, Tryd.ntmps5
    go_wp2_with fail
    refine (bytes4 false a (by omega) w).mono ?_
    rintro e w5 ⟨⟨A1, d1, rfl, own1⟩, b1⟩
    have hz1 := b1.size
    go_wp2_with fail
    refine (bytes4 false w4 hlt4 w5).mono ?_
    rintro e w6 ⟨⟨A2, d2, rfl, own2⟩, b2⟩
    have own1' := Lib.hid (owns_later own1.out b2)
    have b12 := Lib.hid (b1.trans (b2.mono hz1))
    have hz2 := b12.out.size
    obtain ⟨-, A2', c2', e2, R2, -, -, -, -⟩ := RB.of_owns own2.out
    simp only [Value.slice.injEq] at e2
    obtain ⟨rfl, -, rfl⟩ := e2
    have hl2 := Lib.hid (mkBytes_length false 4 w4)
    clear own1 own2 b1 b2
    go_wp2_with (at_builtin; refine Stop.mk ?_)
    refine Stop.go ?_
    refine wpList_append_bytes Tryd.underlying23 Tryd.infoByte rfl (.tmp 66) (.tmp 70) rfl w.heap.size _ 4 (mkBytes false 4 a) rfl own1'.out A2 4 d2 (mkBytes false 4 w4) rfl hl2.out.symm R2 (by omega) hz2 ?_
    intro v3 w7 own3 g3 at3
    have b3 := Lib.hid (b12.out.grown g3 hz2 (fun q hq => (own1'.out.lt q hq).1))
    have hz3 := b3.out.size
    obtain ⟨-, A3, d3, rfl, R3, hc3, -, -, -⟩ := RB.of_owns own3
    have E3 := Lib.hid (hErr.out.chg (Chg.of_below (S := fun k => w.heap.size ≤ k) b3.out (fun k _ h => h)) (by omega) (by omega))
    have htw : mkBytes false 4 a ++ mkBytes false 4 w4 = twoWords false a w4 := rfl
    rw [htw] at R3
    have CALL := Lib.hid (implRelocs_any false 1 A3 (twoWords false a w4) 8 d3 w7 (by omega) (Lib.hid (twoWords_len false a w4).symm) (by omega) R3 (by omega) TE TU vE vU E3)
    have ta := twoWords_a false a w4 (by omega)
    have tb := twoWords_b false a w4 hlt4
    clear own3 g3 at3 own1' R2 R3 E3 htw b12
    go_wp2_with fail
    refine CALL.out.mono ?_
    rintro e w8 ⟨hp, b4⟩
    have b5 := Lib.hid (b3.out.trans (b4.mono hz3))
    clear b4 CALL
    rcases hp with ⟨-, v, rfl, own4⟩ | ⟨h, -, -⟩
    · obtain ⟨G, d4, rfl, hG⟩ := rels_at own4.out
      obtain ⟨g, rfl, -, hlt, hcl⟩ := hG 0 (by omega)
      rw [ta, tb, hcs.out] at hcl
      clear ta tb own4 hG
      have e0 : w8.cell? ⟨g, 0, none⟩ = some (.int .u32 (a : Int)) := hcl 0 _ rfl
      have e1 : w8.cell? ⟨g, 1, none⟩ = some (.int .u32 (v : Int)) := hcl 1 _ rfl
      have e2 : w8.cell? ⟨g, 2, none⟩ = some (.int .u8 (k : Int)) := hcl 2 _ rfl
      have e3 : w8.cell? ⟨g, 3, none⟩ = some (.int .u8 (n : Int)) := hcl 3 _ rfl
      have e4 : w8.cell? ⟨g, 4, none⟩ = some (.bool false) := hcl 4 _ rfl
      have e5 : w8.cell? ⟨g, 5, none⟩ = some (.bool true) := hcl 5 _ rfl
      have e6 : w8.cell? ⟨g, 6, none⟩ = some (.bool false) := hcl 6 _ rfl
      clear hcl
      go_wp2
      go_ret
      exact ⟨rfl, b5.out⟩
    · omega
  · obtain ⟨w1, hw1⟩ : ∃ w1, w1 = v + 16777216 := ⟨_, rfl⟩
    have o0 : bits .or .u32 (v : Int) (16777216 : Int) = (w1 : Int) := by rw [hw1]; exact or_lo (v) (16777216) 24 (by omega) (by omega) (by omega) (by omega)
    obtain ⟨w2, hw2⟩ : ∃ w2, w2 = w1 + n * 33554432 := ⟨_, rfl⟩
    have o1 : bits .or .u32 (w1 : Int) ((n : Int) * 33554432) = (w2 : Int) := by rw [hw2]; exact or_lo (w1) (n * 33554432) 25 (by omega) (by omega) (by omega) (by omega)
    obtain ⟨w3, hw3⟩ : ∃ w3, w3 = w2 + 0 := ⟨_, rfl⟩
    have o2 : bits .or .u32 (w2 : Int) (0 : Int) = (w3 : Int) := by rw [hw3]; exact or_lo (w2) (0) 27 (by omega) (by omega) (by omega) (by omega)
    obtain ⟨w4, hw4⟩ : ∃ w4, w4 = w3 + k * 268435456 := ⟨_, rfl⟩
    have o3 : bits .or .u32 (w3 : Int) ((k : Int) * 268435456) = (w4 : Int) := by rw [hw4]; exact or_lo (w3) (k * 268435456) 28 (by omega) (by omega) (by omega) (by omega)
    have hwd : w4 = wordOf false v (bn true) n (bn false) k := by simp only [wordOf, bn, if_true, Bool.false_eq_true, if_false]; omega
    have hcs := relCells_parts false a v n k true false la lv ln lk
    have hlt4 := wordOf_lt false v n k true false lv ln lk
    rw [← hwd] at hcs hlt4
    have c6 : IntKind.u64.wrap (w4 : Int) = (w4 : Int) := IntWalk.u64_in _ (by omega)
    replace hcs := Lib.hid hcs
    clear hw1 hw2 hw3 hw4 hwd
    go_enter Tryd.func5, Tryd.ntmps5
    go_wp2_with fail
    refine (bytes4 false a (by omega) w).mono ?_
    rintro e w5 ⟨⟨A1, d1, rfl, own1⟩, b1⟩
    have hz1 := b1.size
    go_wp2_with fail
    refine (bytes4 false w4 hlt4 w5).mono ?_
    rintro e w6 ⟨⟨A2, d2, rfl, own2⟩, b2⟩
    have own1' := Lib.hid (owns_later own1.out b2)
    have b12 := Lib.hid (b1.trans (b2.mono hz1))
    have hz2 := b12.out.size
    obtain ⟨-, A2', c2', e2, R2, -, -, -, -⟩ := RB.of_owns own2.out
    simp only [Value.slice.injEq] at e2
    obtain ⟨rfl, -, rfl⟩ := e2
    have hl2 := Lib.hid (mkBytes_length false 4 w4)
    clear own1 own2 b1 b2
    go_wp2_with (at_builtin; refine Stop.mk ?_)
    refine Stop.go ?_
    refine wpList_append_bytes Tryd.underlying23 Tryd.infoByte rfl (.tmp 66) (.tmp 70) rfl w.heap.size _ 4 (mkBytes false 4 a) rfl own1'.out A2 4 d2 (mkBytes false 4 w4) rfl hl2.out.symm R2 (by omega) hz2 ?_
    intro v3 w7 own3 g3 at3
    have b3 := Lib.hid (b12.out.grown g3 hz2 (fun q hq => (own1'.out.lt q hq).1))
    have hz3 := b3.out.size
    obtain ⟨-, A3, d3, rfl, R3, hc3, -, -, -⟩ := RB.of_owns own3
    have E3 := Lib.hid (hErr.out.chg (Chg.of_below (S := fun k => w.heap.size ≤ k) b3.out (fun k _ h => h)) (by omega) (by omega))
    have htw : mkBytes false 4 a ++ mkBytes false 4 w4 = twoWords false a w4 := rfl
    rw [htw] at R3
    have CALL := Lib.hid (implRelocs_any false 1 A3 (twoWords false a w4) 8 d3 w7 (by omega) (Lib.hid (twoWords_len false a w4).symm) (by omega) R3 (by omega) TE TU vE vU E3)
    have ta := twoWords_a false a w4 (by omega)
    have tb := twoWords_b false a w4 hlt4
    clear own3 g3 at3 own1' R2 R3 E3 htw b12
    go_wp2_with fail
    refine CALL.out.mono ?_
    rintro e w8 ⟨hp, b4⟩
    have b5 := Lib.hid (b3.out.trans (b4.mono hz3))
    clear b4 CALL
    rcases hp with ⟨-, v, rfl, own4⟩ | ⟨h, -, -⟩
    · obtain ⟨G, d4, rfl, hG⟩ := rels_at own4.out
      obtain ⟨g, rfl, -, hlt, hcl⟩ := hG 0 (by omega)
      rw [ta, tb, hcs.out] at hcl
      clear ta tb own4 hG
      have e0 : w8.cell? ⟨g, 0, none⟩ = some (.int .u32 (a : Int)) := hcl 0 _ rfl
      have e1 : w8.cell? ⟨g, 1, none⟩ = some (.int .u32 (v : Int)) := hcl 1 _ rfl
      have e2 : w8.cell? ⟨g, 2, none⟩ = some (.int .u8 (k : Int)) := hcl 2 _ rfl
      have e3 : w8.cell? ⟨g, 3, none⟩ = some (.int .u8 (n : Int)) := hcl 3 _ rfl
      have e4 : w8.cell? ⟨g, 4, none⟩ = some (.bool true) := hcl 4 _ rfl
      have e5 : w8.cell? ⟨g, 5, none⟩ = some (.bool false) := hcl 5 _ rfl
      have e6 : w8.cell? ⟨g, 6, none⟩ = some (.bool false) := hcl 6 _ rfl
      clear hcl
      go_wp2
      go_ret
      exact ⟨rfl, b5.out⟩
    · omega
  · obtain ⟨w1, hw1⟩ : ∃ w1, w1 = v + 16777216 := ⟨_, rfl⟩
    have o0 : bits .or .u32 (v : Int) (16777216 : Int) = (w1 : Int) := by rw [hw1]; exact or_lo (v) (16777216) 24 (by omega) (by omega) (by omega) (by omega)
    obtain ⟨w2, hw2⟩ : ∃ w2, w2 = w1 + n * 33554432 := ⟨_, rfl⟩
    have o1 : bits .or .u32 (w1 : Int) ((n : Int) * 33554432) = (w2 : Int) := by rw [hw2]; exact or_lo (w1) (n * 33554432) 25 (by omega) (by omega) (by omega) (by omega)
    obtain ⟨w3, hw3⟩ : ∃ w3, w3 = w2 + 134217728 := ⟨_, rfl⟩
    have o2 : bits .or .u32 (w2 : Int) (134217728 : Int) = (w3 : Int) := by rw [hw3]; exact or_lo (w2) (134217728) 27 (by omega) (by omega) (by omega) (by omega)
    obtain ⟨w4, hw4⟩ : ∃ w4, w4 = w3 + k * 268435456 := ⟨_, rfl⟩
    have o3 : bits .or .u32 (w3 : Int) ((k : Int) * 268435456) = (w4 : Int) := by rw [hw4]; exact or_lo (w3) (k * 268435456) 28 (by omega) (by omega) (by omega) (by omega)
    have hwd : w4 = wordOf false v (bn true) n (bn true) k := by simp only [wordOf, bn, if_true, Bool.false_eq_true, if_false]; omega
    have hcs := relCells_parts false a v n k true true la lv ln lk
    have hlt4 := wordOf_lt false v n k true true lv ln lk
    rw [← hwd] at hcs hlt4
    have c6 : IntKind.u64.wrap (w4 : Int) = (w4 : Int) := IntWalk.u64_in _ (by omega)
    replace hcs := Lib.hid hcs
    clear hw1 hw2 hw3 hw4 hwd
    go_enter Tryd.func5, Tryd.ntmps5
    go_wp2_with fail
    refine (bytes4 false a (by omega) w).mono ?_
    rintro e w5 ⟨⟨A1, d1, rfl, own1⟩, b1⟩
    have hz1 := b1.size
    go_wp2_with fail
    refine (bytes4 false w4 hlt4 w5).mono ?_
    rintro e w6 ⟨⟨A2, d2, rfl, own2⟩, b2⟩
    have own1' := Lib.hid (owns_later own1.out b2)
    have b12 := Lib.hid (b1.trans (b2.mono hz1))
    have hz2 := b12.out.size
    obtain ⟨-, A2', c2', e2, R2, -, -, -, -⟩ := RB.of_owns own2.out
    simp only [Value.slice.injEq] at e2
    obtain ⟨rfl, -, rfl⟩ := e2
    have hl2 := Lib.hid (mkBytes_length false 4 w4)
    clear own1 own2 b1 b2
    go_wp2_with (at_builtin; refine Stop.mk ?_)
    refine Stop.go ?_
    refine wpList_append_bytes Tryd.underlying23 Tryd.infoByte rfl (.tmp 66) (.tmp 70) rfl w.heap.size _ 4 (mkBytes false 4 a) rfl own1'.out A2 4 d2 (mkBytes false 4 w4) rfl hl2.out.symm R2 (by omega) hz2 ?_
    intro v3 w7 own3 g3 at3
    have b3 := Lib.hid (b12.out.grown g3 hz2 (fun q hq => (own1'.out.lt q hq).1))
    have hz3 := b3.out.size
    obtain ⟨-, A3, d3, rfl, R3, hc3, -, -, -⟩ := RB.of_owns own3
    have E3 := Lib.hid (hErr.out.chg (Chg.of_below (S := fun k => w.heap.size ≤ k) b3.out (fun k _ h => h)) (by omega) (by omega))
    have htw : mkBytes false 4 a ++ mkBytes false 4 w4 = twoWords false a w4 := rfl
    rw [htw] at R3
    have CALL := Lib.hid (implRelocs_any false 1 A3 (twoWords false a w4) 8 d3 w7 (by omega) (Lib.hid (twoWords_len false a w4).symm) (by omega) R3 (by omega) TE TU vE vU E3)
    have ta := twoWords_a false a w4 (by omega)
    have tb := twoWords_b false a w4 hlt4
    clear own3 g3 at3 own1' R2 R3 E3 htw b12
    go_wp2_with fail
    refine CALL.out.mono ?_
    rintro e w8 ⟨hp, b4⟩
    have b5 := Lib.hid (b3.out.trans (b4.mono hz3))
    clear b4 CALL
    rcases hp with ⟨-, v, rfl, own4⟩ | ⟨h, -, -⟩
    · obtain ⟨G, d4, rfl, hG⟩ := rels_at own4.out
      obtain ⟨g, rfl, -, hlt, hcl⟩ := hG 0 (by omega)
      rw [ta, tb, hcs.out] at hcl
      clear ta tb own4 hG
      have e0 : w8.cell? ⟨g, 0, none⟩ = some (.int .u32 (a : Int)) := hcl 0 _ rfl
      have e1 : w8.cell? ⟨g, 1, none⟩ = some (.int .u32 (v : Int)) := hcl 1 _ rfl
      have e2 : w8.cell? ⟨g, 2, none⟩ = some (.int .u8 (k : Int)) := hcl 2 _ rfl
      have e3 : w8.cell? ⟨g, 3, none⟩ = some (.int .u8 (n : Int)) := hcl 3 _ rfl
      have e4 : w8.cell? ⟨g, 4, none⟩ = some (.bool true) := hcl 4 _ rfl
      have e5 : w8.cell? ⟨g, 5, none⟩ = some (.bool true) := hcl 5 _ rfl
      have e6 : w8.cell? ⟨g, 6, none⟩ = some (.bool false) := hcl 6 _ rfl
      clear hcl
      go_wp2
      go_ret
      exact ⟨rfl, b5.out⟩
    · omega
  · obtain ⟨w1, hw1⟩ : ∃ w1, w1 = v * 256 + 0 := ⟨_, rfl⟩
    have o0 : bits .or .u32 ((v : Int) * 256) (0 : Int) = (w1 : Int) := by rw [hw1]; exact or_hi (v * 256) (0) 8 (by omega) (by omega) (by omega) (by omega)
    obtain ⟨w2, hw2⟩ : ∃ w2, w2 = w1 + n * 32 := ⟨_, rfl⟩
    have o1 : bits .or .u32 (w1 : Int) ((n : Int) * 32) = (w2 : Int) := by rw [hw2]; exact or_hi (w1) (n * 32) 7 (by omega) (by omega) (by omega) (by omega)
    obtain ⟨w3, hw3⟩ : ∃ w3, w3 = w2 + 0 := ⟨_, rfl⟩
    have o2 : bits .or .u32 (w2 : Int) (0 : Int) = (w3 : Int) := by rw [hw3]; exact or_hi (w2) (0) 5 (by omega) (by omega) (by omega) (by omega)
    obtain ⟨w4, hw4⟩ : ∃ w4, w4 = w3 + k := ⟨_, rfl⟩
    have o3 : bits .or .u32 (w3 : Int) (k : Int) = (w4 : Int) := by rw [hw4]; exact or_hi (w3) (k) 4 (by omega) (by omega) (by omega) (by omega)
    have hwd : w4 = wordOf true v (bn false) n (bn false) k := by simp only [wordOf, bn, if_true, Bool.false_eq_true, if_false]; omega
    have hcs := relCells_parts true a v n k false false la lv ln lk
    have hlt4 := wordOf_lt true v n k false false lv ln lk
    rw [← hwd] at hcs hlt4
    have c6 : IntKind.u64.wrap (w4 : Int) = (w4 : Int) := IntWalk.u64_in _ (by omega)
    replace hcs := Lib.hid hcs
    clear hw1 hw2 hw3 hw4 hwd
    go_enter Tryd.func5, Tryd.ntmps5
    go_wp2_with fail
    refine (bytes4 true a (by omega) w).mono ?_
    rintro e w5 ⟨⟨A1, d1, rfl, own1⟩, b1⟩
    have hz1 := b1.size
    go_wp2_with fail
    refine (bytes4 true w4 hlt4 w5).mono ?_
    rintro e w6 ⟨⟨A2, d2, rfl, own2⟩, b2⟩
    have own1' := Lib.hid (owns_later own1.out b2)
    have b12 := Lib.hid (b1.trans (b2.mono hz1))
    have hz2 := b12.out.size
    obtain ⟨-, A2', c2', e2, R2, -, -, -, -⟩ := RB.of_owns own2.out
    simp only [Value.slice.injEq] at e2
    obtain ⟨rfl, -, rfl⟩ := e2
    have hl2 := Lib.hid (mkBytes_length true 4 w4)
    clear own1 own2 b1 b2
    go_wp2_with (at_builtin; refine Stop.mk ?_)
    refine Stop.go ?_
    refine wpList_append_bytes Tryd.underlying23 Tryd.infoByte rfl (.tmp 66) (.tmp 70) rfl w.heap.size _ 4 (mkBytes true 4 a) rfl own1'.out A2 4 d2 (mkBytes true 4 w4) rfl hl2.out.symm R2 (by omega) hz2 ?_
    intro v3 w7 own3 g3 at3
    have b3 := Lib.hid (b12.out.grown g3 hz2 (fun q hq => (own1'.out.lt q hq).1))
    have hz3 := b3.out.size
    obtain ⟨-, A3, d3, rfl, R3, hc3, -, -, -⟩ := RB.of_owns own3
    have E3 := Lib.hid (hErr.out.chg (Chg.of_below (S := fun k => w.heap.size ≤ k) b3.out (fun k _ h => h)) (by omega) (by omega))
    have htw : mkBytes true 4 a ++ mkBytes true 4 w4 = twoWords true a w4 := rfl
    rw [htw] at R3
    have CALL := Lib.hid (implRelocs_any true 1 A3 (twoWords true a w4) 8 d3 w7 (by omega) (Lib.hid (twoWords_len true a w4).symm) (by omega) R3 (by omega) TE TU vE vU E3)
    have ta := twoWords_a true a w4 (by omega)
    have tb := twoWords_b true a w4 hlt4
    clear own3 g3 at3 own1' R2 R3 E3 htw b12
    go_wp2_with fail
    refine CALL.out.mono ?_
    rintro e w8 ⟨hp, b4⟩
    have b5 := Lib.hid (b3.out.trans (b4.mono hz3))
    clear b4 CALL
    rcases hp with ⟨-, v, rfl, own4⟩ | ⟨h, -, -⟩
    · obtain ⟨G, d4, rfl, hG⟩ := rels_at own4.out
      obtain ⟨g, rfl, -, hlt, hcl⟩ := hG 0 (by omega)
      rw [ta, tb, hcs.out] at hcl
      clear ta tb own4 hG
      have e0 : w8.cell? ⟨g, 0, none⟩ = some (.int .u32 (a : Int)) := hcl 0 _ rfl
      have e1 : w8.cell? ⟨g, 1, none⟩ = some (.int .u32 (v : Int)) := hcl 1 _ rfl
      have e2 : w8.cell? ⟨g, 2, none⟩ = some (.int .u8 (k : Int)) := hcl 2 _ rfl
      have e3 : w8.cell? ⟨g, 3, none⟩ = some (.int .u8 (n : Int)) := hcl 3 _ rfl
      have e4 : w8.cell? ⟨g, 4, none⟩ = some (.bool false) := hcl 4 _ rfl
      have e5 : w8.cell? ⟨g, 5, none⟩ = some (.bool false) := hcl 5 _ rfl
      have e6 : w8.cell? ⟨g, 6, none⟩ = some (.bool false) := hcl 6 _ rfl
      clear hcl
      go_wp2
      go_ret
      exact ⟨rfl, b5.out⟩
    · omega
  · obtain ⟨w1, hw1⟩ : ∃ w1, w1 = v * 256 + 0 := ⟨_, rfl⟩
    have o0 : bits .or .u32 ((v : Int) * 256) (0 : Int) = (w1 : Int) := by rw [hw1]; exact or_hi (v * 256) (0) 8 (by omega) (by omega) (by omega) (by omega)
    obtain ⟨w2, hw2⟩ : ∃ w2, w2 = w1 + n * 32 := ⟨_, rfl⟩
    have o1 : bits .or .u32 (w1 : Int) ((n : Int) * 32) = (w2 : Int) := by rw [hw2]; exact or_hi (w1) (n * 32) 7 (by omega) (by omega) (by omega) (by omega)
    obtain ⟨w3, hw3⟩ : ∃ w3, w3 = w2 + 16 := ⟨_, rfl⟩
    have o2 : bits .or .u32 (w2 : Int) (16 : Int) = (w3 : Int) := by rw [hw3]; exact or_hi (w2) (16) 5 (by omega) (by omega) (by omega) (by omega)
    obtain ⟨w4, hw4⟩ : ∃ w4, w4 = w3 + k := ⟨_, rfl⟩
    have o3 : bits .or .u32 (w3 : Int) (k : Int) = (w4 : Int) := by rw [hw4]; exact or_hi (w3) (k) 4 (by omega) (by omega) (by omega) (by omega)
    have hwd : w4 = wordOf true v (bn false) n (bn true) k := by simp only [wordOf, bn, if_true, Bool.false_eq_true, if_false]; omega
    have hcs := relCells_parts true a v n k false true la lv ln lk
    have hlt4 := wordOf_lt true v n k false true lv ln lk
    rw [← hwd] at hcs hlt4
    have c6 : IntKind.u64.wrap (w4 : Int) = (w4 : Int) := IntWalk.u64_in _ (by omega)
    replace hcs := Lib.hid hcs
    clear hw1 hw2 hw3 hw4 hwd
    go_enter Tryd.func5, Tryd.ntmps5
    go_wp2_with fail
    refine (bytes4 true a (by omega) w).mono ?_
    rintro e w5 ⟨⟨A1, d1, rfl, own1⟩, b1⟩
    have hz1 := b1.size
    go_wp2_with fail
    refine (bytes4 true w4 hlt4 w5).mono ?_
    rintro e w6 ⟨⟨A2, d2, rfl, own2⟩, b2⟩
    have own1' := Lib.hid (owns_later own1.out b2)
    have b12 := Lib.hid (b1.trans (b2.mono hz1))
    have hz2 := b12.out.size
    obtain ⟨-, A2', c2', e2, R2, -, -, -, -⟩ := RB.of_owns own2.out
    simp only [Value.slice.injEq] at e2
    obtain ⟨rfl, -, rfl⟩ := e2
    have hl2 := Lib.hid (mkBytes_length true 4 w4)
    clear own1 own2 b1 b2
    go_wp2_with (at_builtin; refine Stop.mk ?_)
    refine Stop.go ?_
    refine wpList_append_bytes Tryd.underlying23 Tryd.infoByte rfl (.tmp 66) (.tmp 70) rfl w.heap.size _ 4 (mkBytes true 4 a) rfl own1'.out A2 4 d2 (mkBytes true 4 w4) rfl hl2.out.symm R2 (by omega) hz2 ?_
    intro v3 w7 own3 g3 at3
    have b3 := Lib.hid (b12.out.grown g3 hz2 (fun q hq => (own1'.out.lt q hq).1))
    have hz3 := b3.out.size
    obtain ⟨-, A3, d3, rfl, R3, hc3, -, -, -⟩ := RB.of_owns own3
    have E3 := Lib.hid (hErr.out.chg (Chg.of_below (S := fun k => w.heap.size ≤ k) b3.out (fun k _ h => h)) (by omega) (by omega))
    have htw : mkBytes true 4 a ++ mkBytes true 4 w4 = twoWords true a w4 := rfl
    rw [htw] at R3
    have CALL := Lib.hid (implRelocs_any true 1 A3 (twoWords true a w4) 8 d3 w7 (by omega) (Lib.hid (twoWords_len true a w4).symm) (by omega) R3 (by omega) TE TU vE vU E3)
    have ta := twoWords_a true a w4 (by omega)
    have tb := twoWords_b true a w4 hlt4
    clear own3 g3 at3 own1' R2 R3 E3 htw b12
    go_wp2_with fail
    refine CALL.out.mono ?_
    rintro e w8 ⟨hp, b4⟩
    have b5 := Lib.hid (b3.out.trans (b4.mono hz3))
    clear b4 CALL
    rcases hp with ⟨-, v, rfl, own4⟩ | ⟨h, -, -⟩
    · obtain ⟨G, d4, rfl, hG⟩ := rels_at own4.out
      obtain ⟨g, rfl, -, hlt, hcl⟩ := hG 0 (by omega)
      rw [ta, tb, hcs.out] at hcl
      clear ta tb own4 hG
      have e0 : w8.cell? ⟨g, 0, none⟩ = some (.int .u32 (a : Int)) := hcl 0 _ rfl
      have e1 : w8.cell? ⟨g, 1, none⟩ = some (.int .u32 (v : Int)) := hcl 1 _ rfl
      have e2 : w8.cell? ⟨g, 2, none⟩ = some (.int .u8 (k : Int)) := hcl 2 _ rfl
      have e3 : w8.cell? ⟨g, 3, none⟩ = some (.int .u8 (n : Int)) := hcl 3 _ rfl
      have e4 : w8.cell? ⟨g, 4, none⟩ = some (.bool false) := hcl 4 _ rfl
      have e5 : w8.cell? ⟨g, 5, none⟩ = some (.bool true) := hcl 5 _ rfl
      have e6 : w8.cell? ⟨g, 6, none⟩ = some (.bool false) := hcl 6 _ rfl
      clear hcl
      go_wp2
      go_ret
      exact ⟨rfl, b5.out⟩
    · omega
  · obtain ⟨w1, hw1⟩ : ∃ w1, w1 = v * 256 + 128 := ⟨_, rfl⟩
    have o0 : bits .or .u32 ((v : Int) * 256) (128 : Int) = (w1 : Int) := by rw [hw1]; exact or_hi (v * 256) (128) 8 (by omega) (by omega) (by omega) (by omega)
    obtain ⟨w2, hw2⟩ : ∃ w2, w2 = w1 + n * 32 := ⟨_, rfl⟩
    have o1 : bits .or .u32 (w1 : Int) ((n : Int) * 32) = (w2 : Int) := by rw [hw2]; exact or_hi (w1) (n * 32) 7 (by omega) (by omega) (by omega) (by omega)
    obtain ⟨w3, hw3⟩ : ∃ w3, w3 = w2 + 0 := ⟨_, rfl⟩
    have o2 : bits .or .u32 (w2 : Int) (0 : Int) = (w3 : Int) := by rw [hw3]; exact or_hi (w2) (0) 5 (by omega) (by omega) (by omega) (by omega)
    obtain ⟨w4, hw4⟩ : ∃ w4, w4 = w3 + k := ⟨_, rfl⟩
    have o3 : bits .or .u32 (w3 : Int) (k : Int) = (w4 : Int) := by rw [hw4]; exact or_hi (w3) (k) 4 (by omega) (by omega) (by omega) (by omega)
    have hwd : w4 = wordOf true v (bn true) n (bn false) k := by simp only [wordOf, bn, if_true, Bool.false_eq_true, if_false]; omega
    have hcs := relCells_parts true a v n k true false la lv ln lk
    have hlt4 := wordOf_lt true v n k true false lv ln lk
    rw [← hwd] at hcs hlt4
    have c6 : IntKind.u64.wrap (w4 : Int) = (w4 : Int) := IntWalk.u64_in _ (by omega)
    replace hcs := Lib.hid hcs
    clear hw1 hw2 hw3 hw4 hwd
    go_enter Tryd.func5, Tryd.ntmps5
    go_wp2_with fail
    refine (bytes4 true a (by omega) w).mono ?_
    rintro e w5 ⟨⟨A1, d1, rfl, own1⟩, b1⟩
    have hz1 := b1.size
    go_wp2_with fail
    refine (bytes4 true w4 hlt4 w5).mono ?_
    rintro e w6 ⟨⟨A2, d2, rfl, own2⟩, b2⟩
    have own1' := Lib.hid (owns_later own1.out b2)
    have b12 := Lib.hid (b1.trans (b2.mono hz1))
    have hz2 := b12.out.size
    obtain ⟨-, A2', c2', e2, R2, -, -, -, -⟩ := RB.of_owns own2.out
    simp only [Value.slice.injEq] at e2
    obtain ⟨rfl, -, rfl⟩ := e2
    have hl2 := Lib.hid (mkBytes_length true 4 w4)
    clear own1 own2 b1 b2
    go_wp2_with (at_builtin; refine Stop.mk ?_)
    refine Stop.go ?_
    refine wpList_append_bytes Tryd.underlying23 Tryd.infoByte rfl (.tmp 66) (.tmp 70) rfl w.heap.size _ 4 (mkBytes true 4 a) rfl own1'.out A2 4 d2 (mkBytes true 4 w4) rfl hl2.out.symm R2 (by omega) hz2 ?_
    intro v3 w7 own3 g3 at3
    have b3 := Lib.hid (b12.out.grown g3 hz2 (fun q hq => (own1'.out.lt q hq).1))
    have hz3 := b3.out.size
    obtain ⟨-, A3, d3, rfl, R3, hc3, -, -, -⟩ := RB.of_owns own3
    have E3 := Lib.hid (hErr.out.chg (Chg.of_below (S := fun k => w.heap.size ≤ k) b3.out (fun k _ h => h)) (by omega) (by omega))
    have htw : mkBytes true 4 a ++ mkBytes true 4 w4 = twoWords true a w4 := rfl
    rw [htw] at R3
    have CALL := Lib.hid (implRelocs_any true 1 A3 (twoWords true a w4) 8 d3 w7 (by omega) (Lib.hid (twoWords_len true a w4).symm) (by omega) R3 (by omega) TE TU vE vU E3)
    have ta := twoWords_a true a w4 (by omega)
    have tb := twoWords_b true a w4 hlt4
    clear own3 g3 at3 own1' R2 R3 E3 htw b12
    go_wp2_with fail
    refine CALL.out.mono ?_
    rintro e w8 ⟨hp, b4⟩
    have b5 := Lib.hid (b3.out.trans (b4.mono hz3))
    clear b4 CALL
    rcases hp with ⟨-, v, rfl, own4⟩ | ⟨h, -, -⟩
    · obtain ⟨G, d4, rfl, hG⟩ := rels_at own4.out
      obtain ⟨g, rfl, -, hlt, hcl⟩ := hG 0 (by omega)
      rw [ta, tb, hcs.out] at hcl
      clear ta tb own4 hG
      have e0 : w8.cell? ⟨g, 0, none⟩ = some (.int .u32 (a : Int)) := hcl 0 _ rfl
      have e1 : w8.cell? ⟨g, 1, none⟩ = some (.int .u32 (v : Int)) := hcl 1 _ rfl
      have e2 : w8.cell? ⟨g, 2, none⟩ = some (.int .u8 (k : Int)) := hcl 2 _ rfl
      have e3 : w8.cell? ⟨g, 3, none⟩ = some (.int .u8 (n : Int)) := hcl 3 _ rfl
      have e4 : w8.cell? ⟨g, 4, none⟩ = some (.bool true) := hcl 4 _ rfl
      have e5 : w8.cell? ⟨g, 5, none⟩ = some (.bool false) := hcl 5 _ rfl
      have e6 : w8.cell? ⟨g, 6, none⟩ = some (.bool false) := hcl 6 _ rfl
      clear hcl
      go_wp2
      go_ret
      exact ⟨rfl, b5.out⟩
    · omega
  · obtain ⟨w1, hw1⟩ : ∃ w1, w1 = v * 256 + 128 := ⟨_, rfl⟩
    have o0 : bits .or .u32 ((v : Int) * 256) (128 : Int) = (w1 : Int) := by rw [hw1]; exact or_hi (v * 256) (128) 8 (by omega) (by omega) (by omega) (by omega)
    obtain ⟨w2, hw2⟩ : ∃ w2, w2 = w1 + n * 32 := ⟨_, rfl⟩
    have o1 : bits .or .u32 (w1 : Int) ((n : Int) * 32) = (w2 : Int) := by rw [hw2]; exact or_hi (w1) (n * 32) 7 (by omega) (by omega) (by omega) (by omega)
    obtain ⟨w3, hw3⟩ : ∃ w3, w3 = w2 + 16 := ⟨_, rfl⟩
    have o2 : bits .or .u32 (w2 : Int) (16 : Int) = (w3 : Int) := by rw [hw3]; exact or_hi (w2) (16) 5 (by omega) (by omega) (by omega) (by omega)
    obtain ⟨w4, hw4⟩ : ∃ w4, w4 = w3 + k := ⟨_, rfl⟩
    have o3 : bits .or .u32 (w3 : Int) (k : Int) = (w4 : Int) := by rw [hw4]; exact or_hi (w3) (k) 4 (by omega) (by omega) (by omega) (by omega)
    have hwd : w4 = wordOf true v (bn true) n (bn true) k := by simp only [wordOf, bn, if_true, Bool.false_eq_true, if_false]; omega
    have hcs := relCells_parts true a v n k true true la lv ln lk
    have hlt4 := wordOf_lt true v n k true true lv ln lk
    rw [← hwd] at hcs hlt4
    have c6 : IntKind.u64.wrap (w4 : Int) = (w4 : Int) := IntWalk.u64_in _ (by omega)
    replace hcs := Lib.hid hcs
    clear hw1 hw2 hw3 hw4 hwd
    go_enter Tryd.func5, Tryd.ntmps5
    go_wp2_with fail
    refine (bytes4 true a (by omega) w).mono ?_
    rintro e w5 ⟨⟨A1, d1, rfl, own1⟩, b1⟩
    have hz1 := b1.size
    go_wp2_with fail
    refine (bytes4 true w4 hlt4 w5).mono ?_
    rintro e w6 ⟨⟨A2, d2, rfl, own2⟩, b2⟩
    have own1' := Lib.hid (owns_later own1.out b2)
    have b12 := Lib.hid (b1.trans (b2.mono hz1))
    have hz2 := b12.out.size
    obtain ⟨-, A2', c2', e2, R2, -, -, -, -⟩ := RB.of_owns own2.out
    simp only [Value.slice.injEq] at e2
    obtain ⟨rfl, -, rfl⟩ := e2
    have hl2 := Lib.hid (mkBytes_length true 4 w4)
    clear own1 own2 b1 b2
    go_wp2_with (at_builtin; refine Stop.mk ?_)
    refine Stop.go ?_
    refine wpList_append_bytes Tryd.underlying23 Tryd.infoByte rfl (.tmp 66) (.tmp 70) rfl w.heap.size _ 4 (mkBytes true 4 a) rfl own1'.out A2 4 d2 (mkBytes true 4 w4) rfl hl2.out.symm R2 (by omega) hz2 ?_
    intro v3 w7 own3 g3 at3
    have b3 := Lib.hid (b12.out.grown g3 hz2 (fun q hq => (own1'.out.lt q hq).1))
    have hz3 := b3.out.size
    obtain ⟨-, A3, d3, rfl, R3, hc3, -, -, -⟩ := RB.of_owns own3
    have E3 := Lib.hid (hErr.out.chg (Chg.of_below (S := fun k => w.heap.size ≤ k) b3.out (fun k _ h => h)) (by omega) (by omega))
    have htw : mkBytes true 4 a ++ mkBytes true 4 w4 = twoWords true a w4 := rfl
    rw [htw] at R3
    have CALL := Lib.hid (implRelocs_any true 1 A3 (twoWords true a w4) 8 d3 w7 (by omega) (Lib.hid (twoWords_len true a w4).symm) (by omega) R3 (by omega) TE TU vE vU E3)
    have ta := twoWords_a true a w4 (by omega)
    have tb := twoWords_b true a w4 hlt4
    clear own3 g3 at3 own1' R2 R3 E3 htw b12
    go_wp2_with fail
    refine CALL.out.mono ?_
    rintro e w8 ⟨hp, b4⟩
    have b5 := Lib.hid (b3.out.trans (b4.mono hz3))
    clear b4 CALL
    rcases hp with ⟨-, v, rfl, own4⟩ | ⟨h, -, -⟩
    · obtain ⟨G, d4, rfl, hG⟩ := rels_at own4.out
      obtain ⟨g, rfl, -, hlt, hcl⟩ := hG 0 (by omega)
      rw [ta, tb, hcs.out] at hcl
      clear ta tb own4 hG
      have e0 : w8.cell? ⟨g, 0, none⟩ = some (.int .u32 (a : Int)) := hcl 0 _ rfl
      have e1 : w8.cell? ⟨g, 1, none⟩ = some (.int .u32 (v : Int)) := hcl 1 _ rfl
      have e2 : w8.cell? ⟨g, 2, none⟩ = some (.int .u8 (k : Int)) := hcl 2 _ rfl
      have e3 : w8.cell? ⟨g, 3, none⟩ = some (.int .u8 (n : Int)) := hcl 3 _ rfl
      have e4 : w8.cell? ⟨g, 4, none⟩ = some (.bool true) := hcl 4 _ rfl
      have e5 : w8.cell? ⟨g, 5, none⟩ = some (.bool true) := hcl 5 _ rfl
      have e6 : w8.cell? ⟨g, 6, none⟩ = some (.bool false) := hcl 6 _ rfl
      clear hcl
      go_wp2
      go_ret
      exact ⟨rfl, b5.out⟩
    · omega

theorem law_FnMachoRelocParts (a0 : Bool) (a1 a2 a3 a4 : Int) (a5 a6 : Bool) (w : World) (w1 : (Lit.int .u32 a1).wf = true) (w2 : (Lit.int .u32 a2).wf = true) (w3 : (Lit.int .u8 a3).wf = true) (w4 : (Lit.int .u8 a4).wf = true) (TE TU : TypeId) (vE vU : Value) (hErr : ErrsAt w TE TU vE vU) (h3 : 3 ≤ w.heap.size) :
    Calls Tryd.prog 5 #[.bool a0, .int .u32 a1, .int .u32 a2, .int .u8 a3, .int .u8 a4, .bool a5, .bool a6] w fun e w' => e = .returned (.bool true) ∧ Below w.heap.size w w' := by
  obtain ⟨a, rfl, ha⟩ := u32_wf w1
  obtain ⟨b, rfl, hb⟩ := u32_wf w2
  obtain ⟨c, rfl, hc⟩ := u8_wf w3
  obtain ⟨d, rfl, hd⟩ := u8_wf w4
  exact lawParts a0 a b c d a5 a6 w (by omega) (by omega) (by omega) (by omega) h3 TE TU vE vU (Lib.hid hErr)
end Go.Proofs.YtmgmmdhaklokjaaDoor
