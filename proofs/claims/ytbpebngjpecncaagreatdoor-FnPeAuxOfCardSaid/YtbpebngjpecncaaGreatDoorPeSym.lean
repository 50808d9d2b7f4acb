/-
  The contract of the function that tells whether a name is a place in the table of texts, and the law on it.
-/
import Derived.Test.YtbpebngjpecncaaGreatDoorOrd
import Derived.Test.YtbpebngjpecncaaGreatDoorNum
import Derived.Test.YtbpebngjpecncaaGreatDoorPeStr
namespace Go.Proofs.YtbpebngjpecncaaGreatDoor
set_option linter.unusedVariables false
set_option linter.unusedSimpArgs false
set_option maxRecDepth 100000
open Go Go.RowKit

theorem ret_bi {a b : Bool} {k : IntKind} {x y : Int} (h : a = b) (hx : x = y) : Ending.returned (.tuple #[.bool a, .int k x]) = .returned (.tuple #[.bool b, .int k y]) := by rw [h, hx]


set_option maxHeartbeats 1000000 in
theorem isSym_no0 (x0 x1 x2 x3 x4 x5 x6 x7 : UInt8)  (h0 : ((x0.toNat : Int) == 0) = false) (w : World) :
    Calls Tryz.prog 59 #[.agg #[.int .u8 x0.toNat, .int .u8 x1.toNat, .int .u8 x2.toNat, .int .u8 x3.toNat, .int .u8 x4.toNat, .int .u8 x5.toNat, .int .u8 x6.toNat, .int .u8 x7.toNat]] w fun e w' => e = .returned (.tuple #[.bool false, .int .u32 0]) ∧ Below w.heap.size w w' := by
  go_enter Tryz.func59, Tryz.ntmps59
  go_wp2
  go_ret2
  exact ⟨rfl, (Below.refl _ _).alloc (Nat.le_refl _) _⟩

set_option maxHeartbeats 1000000 in
theorem isSym_no1 (x0 x1 x2 x3 x4 x5 x6 x7 : UInt8) (h0 : ((x0.toNat : Int) == 0) = true) (h1 : ((x1.toNat : Int) == 0) = false) (w : World) :
    Calls Tryz.prog 59 #[.agg #[.int .u8 x0.toNat, .int .u8 x1.toNat, .int .u8 x2.toNat, .int .u8 x3.toNat, .int .u8 x4.toNat, .int .u8 x5.toNat, .int .u8 x6.toNat, .int .u8 x7.toNat]] w fun e w' => e = .returned (.tuple #[.bool false, .int .u32 0]) ∧ Below w.heap.size w w' := by
  go_enter Tryz.func59, Tryz.ntmps59
  go_wp2
  go_ret2
  exact ⟨rfl, (Below.refl _ _).alloc (Nat.le_refl _) _⟩

set_option maxHeartbeats 1000000 in
theorem isSym_no2 (x0 x1 x2 x3 x4 x5 x6 x7 : UInt8) (h0 : ((x0.toNat : Int) == 0) = true) (h1 : ((x1.toNat : Int) == 0) = true) (h2 : ((x2.toNat : Int) == 0) = false) (w : World) :
    Calls Tryz.prog 59 #[.agg #[.int .u8 x0.toNat, .int .u8 x1.toNat, .int .u8 x2.toNat, .int .u8 x3.toNat, .int .u8 x4.toNat, .int .u8 x5.toNat, .int .u8 x6.toNat, .int .u8 x7.toNat]] w fun e w' => e = .returned (.tuple #[.bool false, .int .u32 0]) ∧ Below w.heap.size w w' := by
  go_enter Tryz.func59, Tryz.ntmps59
  go_wp2
  go_ret2
  exact ⟨rfl, (Below.refl _ _).alloc (Nat.le_refl _) _⟩

set_option maxHeartbeats 1000000 in
theorem isSym_no3 (x0 x1 x2 x3 x4 x5 x6 x7 : UInt8) (h0 : ((x0.toNat : Int) == 0) = true) (h1 : ((x1.toNat : Int) == 0) = true) (h2 : ((x2.toNat : Int) == 0) = true) (h3 : ((x3.toNat : Int) == 0) = false) (w : World) :
    Calls Tryz.prog 59 #[.agg #[.int .u8 x0.toNat, .int .u8 x1.toNat, .int .u8 x2.toNat, .int .u8 x3.toNat, .int .u8 x4.toNat, .int .u8 x5.toNat, .int .u8 x6.toNat, .int .u8 x7.toNat]] w fun e w' => e = .returned (.tuple #[.bool false, .int .u32 0]) ∧ Below w.heap.size w w' := by
  go_enter Tryz.func59, Tryz.ntmps59
  go_wp2
  go_ret2
  exact ⟨rfl, (Below.refl _ _).alloc (Nat.le_refl _) _⟩

set_option maxHeartbeats 1000000 in
theorem isSym_yes0 (x0 x1 x2 x3 x4 x5 x6 x7 : UInt8) (h0 : ((x0.toNat : Int) == 0) = true) (h1 : ((x1.toNat : Int) == 0) = true) (h2 : ((x2.toNat : Int) == 0) = true) (h3 : ((x3.toNat : Int) == 0) = true) (hz : (((num false [x4, x5, x6, x7] : Nat) : Int) == 0) = false) (w : World) :
    Calls Tryz.prog 59 #[.agg #[.int .u8 x0.toNat, .int .u8 x1.toNat, .int .u8 x2.toNat, .int .u8 x3.toNat, .int .u8 x4.toNat, .int .u8 x5.toNat, .int .u8 x6.toNat, .int .u8 x7.toNat]] w fun e w' => e = .returned (.tuple #[.bool true, .int .u32 (num false [x4, x5, x6, x7] : Nat)]) ∧ Below w.heap.size w w' := by
  have hr : RB (w.alloc (.cells #[.int .u8 x0.toNat, .int .u8 x1.toNat, .int .u8 x2.toNat, .int .u8 x3.toNat, .int .u8 x4.toNat, .int .u8 x5.toNat, .int .u8 x6.toNat, .int .u8 x7.toNat] 97)) (some ⟨w.heap.size, 4, none⟩) [x4, x5, x6, x7] :=
    .inr ⟨_, _, rfl, fun i hi => by
      have hi' : i = 0 ∨ i = 1 ∨ i = 2 ∨ i = 3 := by simp at hi; omega
      rcases hi' with rfl | rfl | rfl | rfl <;> simp⟩
  have HR := Lib.hid hr
  clear hr
  go_enter Tryz.func59, Tryz.ntmps59
  go_wp2_with fail
  refine (u32_RB false w.heap.size 4 4 4 [x4, x5, x6, x7] _ HR.out (by simp) (by omega) (by omega)).mono ?_
  rintro e w' ⟨rfl, q, rfl⟩
  rw [show List.take 4 [x4, x5, x6, x7] = [x4, x5, x6, x7] from rfl]
  go_wp2
  go_ret2
  exact ⟨rfl, below_drewN ((Below.refl _ _).alloc (Nat.le_refl _) _) q⟩

set_option maxHeartbeats 1000000 in
theorem isSym_yes1 (x0 x1 x2 x3 x4 x5 x6 x7 : UInt8) (h0 : ((x0.toNat : Int) == 0) = true) (h1 : ((x1.toNat : Int) == 0) = true) (h2 : ((x2.toNat : Int) == 0) = true) (h3 : ((x3.toNat : Int) == 0) = true) (hz : (((num false [x4, x5, x6, x7] : Nat) : Int) == 0) = true) (w : World) :
    Calls Tryz.prog 59 #[.agg #[.int .u8 x0.toNat, .int .u8 x1.toNat, .int .u8 x2.toNat, .int .u8 x3.toNat, .int .u8 x4.toNat, .int .u8 x5.toNat, .int .u8 x6.toNat, .int .u8 x7.toNat]] w fun e w' => e = .returned (.tuple #[.bool false, .int .u32 0]) ∧ Below w.heap.size w w' := by
  have hr : RB (w.alloc (.cells #[.int .u8 x0.toNat, .int .u8 x1.toNat, .int .u8 x2.toNat, .int .u8 x3.toNat, .int .u8 x4.toNat, .int .u8 x5.toNat, .int .u8 x6.toNat, .int .u8 x7.toNat] 97)) (some ⟨w.heap.size, 4, none⟩) [x4, x5, x6, x7] :=
    .inr ⟨_, _, rfl, fun i hi => by
      have hi' : i = 0 ∨ i = 1 ∨ i = 2 ∨ i = 3 := by simp at hi; omega
      rcases hi' with rfl | rfl | rfl | rfl <;> simp⟩
  have HR := Lib.hid hr
  clear hr
  go_enter Tryz.func59, Tryz.ntmps59
  go_wp2_with fail
  refine (u32_RB false w.heap.size 4 4 4 [x4, x5, x6, x7] _ HR.out (by simp) (by omega) (by omega)).mono ?_
  rintro e w' ⟨rfl, q, rfl⟩
  rw [show List.take 4 [x4, x5, x6, x7] = [x4, x5, x6, x7] from rfl]
  go_wp2
  go_ret2
  exact ⟨rfl, below_drewN ((Below.refl _ _).alloc (Nat.le_refl _) _) q⟩

/-- Is a name of eight bytes the place of a text, and which? -/
def offOf (l : List UInt8) : Nat := if num false (l.take 4) = 0 then num false (l.drop 4) else 0
def isOff (l : List UInt8) : Bool := decide (offOf l ≠ 0)
theorem num4_zero (x y z u : UInt8) : num false [x, y, z, u] = 0 ↔ x.toNat = 0 ∧ y.toNat = 0 ∧ z.toNat = 0 ∧ u.toNat = 0 := by
  simp only [num, Lib.leNat, Bool.false_eq_true, if_false]
  omega
theorem beq_int0 {n : Nat} (h : n = 0) : ((n : Int) == 0) = true := by rw [beq_iff_eq]; omega
theorem bne_int0 {n : Nat} (h : n ≠ 0) : ((n : Int) == 0) = false := by rw [beq_eq_false_iff_ne]; omega

/-- The cells of bytes. -/
def bvs (l : List UInt8) : Array Value := (l.map bv).toArray

theorem isSym_any (x0 x1 x2 x3 x4 x5 x6 x7 : UInt8) (w : World) :
    Calls Tryz.prog 59 #[.agg #[.int .u8 x0.toNat, .int .u8 x1.toNat, .int .u8 x2.toNat, .int .u8 x3.toNat, .int .u8 x4.toNat, .int .u8 x5.toNat, .int .u8 x6.toNat, .int .u8 x7.toNat]] w fun e w' => e = .returned (.tuple #[.bool (isOff [x0, x1, x2, x3, x4, x5, x6, x7]), .int .u32 (offOf [x0, x1, x2, x3, x4, x5, x6, x7] : Nat)]) ∧ Below w.heap.size w w' := by
  have hd : offOf [x0, x1, x2, x3, x4, x5, x6, x7] = if num false [x0, x1, x2, x3] = 0 then num false [x4, x5, x6, x7] else 0 := rfl
  have hz := num4_zero x0 x1 x2 x3
  by_cases h0 : x0.toNat = 0
  · by_cases h1 : x1.toNat = 0
    · by_cases h2 : x2.toNat = 0
      · by_cases h3 : x3.toNat = 0
        · rw [if_pos (hz.2 ⟨h0, h1, h2, h3⟩)] at hd
          unfold isOff
          rw [hd]
          by_cases hn : num false [x4, x5, x6, x7] = 0
          · refine (isSym_yes1 x0 x1 x2 x3 x4 x5 x6 x7 (beq_int0 h0) (beq_int0 h1) (beq_int0 h2) (beq_int0 h3) (beq_int0 hn) w).mono ?_
            rintro e w' ⟨rfl, hb⟩
            exact ⟨by simp [hn], hb⟩
          · refine (isSym_yes0 x0 x1 x2 x3 x4 x5 x6 x7 (beq_int0 h0) (beq_int0 h1) (beq_int0 h2) (beq_int0 h3) (bne_int0 hn) w).mono ?_
            rintro e w' ⟨rfl, hb⟩
            exact ⟨by simp [hn], hb⟩
        · rw [if_neg (fun e => h3 (hz.1 e).2.2.2)] at hd
          unfold isOff
          rw [hd]
          exact (isSym_no3 x0 x1 x2 x3 x4 x5 x6 x7 (beq_int0 h0) (beq_int0 h1) (beq_int0 h2) (bne_int0 h3) w).mono fun e w' ⟨he, hb⟩ => ⟨by rw [he]; rfl, hb⟩
      · rw [if_neg (fun e => h2 (hz.1 e).2.2.1)] at hd
        unfold isOff
        rw [hd]
        exact (isSym_no2 x0 x1 x2 x3 x4 x5 x6 x7 (beq_int0 h0) (beq_int0 h1) (bne_int0 h2) w).mono fun e w' ⟨he, hb⟩ => ⟨by rw [he]; rfl, hb⟩
    · rw [if_neg (fun e => h1 (hz.1 e).2.1)] at hd
      unfold isOff
      rw [hd]
      exact (isSym_no1 x0 x1 x2 x3 x4 x5 x6 x7 (beq_int0 h0) (bne_int0 h1) w).mono fun e w' ⟨he, hb⟩ => ⟨by rw [he]; rfl, hb⟩
  · rw [if_neg (fun e => h0 (hz.1 e).1)] at hd
    unfold isOff
    rw [hd]
    exact (isSym_no0 x0 x1 x2 x3 x4 x5 x6 x7 (bne_int0 h0) w).mono fun e w' ⟨he, hb⟩ => ⟨by rw [he]; rfl, hb⟩


theorem list8' {l : List UInt8} (h : 8 = l.length) : ∃ x0 x1 x2 x3 x4 x5 x6 x7, l = [x0, x1, x2, x3, x4, x5, x6, x7] := by
  match l, h with
  | [a, b, c, d, e, f, g, i], _ => exact ⟨a, b, c, d, e, f, g, i, rfl⟩

theorem RB.new8 (w : World) (x0 x1 x2 x3 x4 x5 x6 x7 : UInt8) (e : TypeId) : RB (w.alloc (.cells #[.int .u8 x0.toNat, .int .u8 x1.toNat, .int .u8 x2.toNat, .int .u8 x3.toNat, .int .u8 x4.toNat, .int .u8 x5.toNat, .int .u8 x6.toNat, .int .u8 x7.toNat] e)) (some ⟨w.heap.size, 0, none⟩) [x0, x1, x2, x3, x4, x5, x6, x7] :=
  .inr ⟨_, _, rfl, fun i hi => by
    have hi' : i = 0 ∨ i = 1 ∨ i = 2 ∨ i = 3 ∨ i = 4 ∨ i = 5 ∨ i = 6 ∨ i = 7 := by simp at hi; omega
    rcases hi' with rfl | rfl | rfl | rfl | rfl | rfl | rfl | rfl <;> simp⟩

end Go.Proofs.YtbpebngjpecncaaGreatDoor
