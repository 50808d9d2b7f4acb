/-
  The numbers of two, four and eight bytes as the program reads them, in both orders.
-/
import Derived.Test.YtbpebngjpecncaaGreatDoorKit
import Derived.Test.YtbpebngjpecncaaGreatDoorProg
namespace Go.Proofs.YtbpebngjpecncaaGreatDoor
set_option linter.unusedVariables false
set_option linter.unusedSimpArgs false
set_option maxRecDepth 100000
open Go Go.RowKit

theorem num2 (big : Bool) (x y : UInt8) : num big [x, y] = if big then x.toNat * 256 + y.toNat else x.toNat + 256 * y.toNat := by
  cases big <;> simp [num, Lib.beNat, Lib.beFrom, Lib.leNat]
theorem num2_lt (big : Bool) (x y : UInt8) : num big [x, y] < 65536 := by simpa using num_lt big [x, y]
theorem num4_lt (big : Bool) (x y z u : UInt8) : num big [x, y, z, u] < 4294967296 := by simpa using num_lt big [x, y, z, u]
theorem num4 (big : Bool) (x y z u : UInt8) : num big [x, y, z, u] = if big then num big [x, y] * 65536 + num big [z, u] else num big [x, y] + 65536 * num big [z, u] :=
  (num_append big [x, y] [z, u]).trans (by simp only [List.length_cons, List.length_nil])
theorem num8 (big : Bool) (x y z u a b c d : UInt8) : num big [x, y, z, u, a, b, c, d] = if big then num big [x, y, z, u] * 4294967296 + num big [a, b, c, d] else num big [x, y, z, u] + 4294967296 * num big [a, b, c, d] :=
  (num_append big [x, y, z, u] [a, b, c, d]).trans (by simp only [List.length_cons, List.length_nil])
theorem ret_kind {k : IntKind} {a b : Int} (h : a = b) : Ending.returned (.int k a) = .returned (.int k b) := by rw [h]
theorem or_comm16 {x y : Int} (hy₀ : 0 ≤ y) (hy : y < 65536) (hx₀ : 0 ≤ x) (hx : x % 65536 = 0) (hx₁ : x < 4294967296) : bits .or .u32 x y = y + x := by
  rw [← u32_or16 _ _ hy₀ hy hx₀ hx hx₁]
  simp only [bits, BitVec.or_comm]
theorem or_comm32 {x y : Int} (hy₀ : 0 ≤ y) (hy : y < 4294967296) (hx₀ : 0 ≤ x) (hx : x % 4294967296 = 0) (hx₁ : x < 18446744073709551616) : bits .or .u64 x y = y + x := by
  rw [← u64_or32 _ _ hy₀ hy hx₀ hx hx₁]
  simp only [bits, BitVec.or_comm]


set_option maxHeartbeats 400000 in
theorem u16_le (b o n c : Nat) (x y : UInt8) (w : World) (hn : 2 ≤ n)
    (c0 : w.cell? ⟨b, o, none⟩ = some (.int .u8 x.toNat)) (c1 : w.cell? ⟨b, o + 1, none⟩ = some (.int .u8 y.toNat)) :
    Calls Tryz.prog 43 #[.int .u8 0, .slice (some ⟨b, o, none⟩) n c] w fun e w' => e = .returned (.int .u16 (num false [x, y] : Nat)) ∧ ∃ q, w' = w.drewN q := by
  have hx := x.toNat_lt
  have hy := y.toNat_lt
  have hn0 : (0 : Int) < (n : Int) := by omega
  have hn1 : (1 : Int) < (n : Int) := by omega
  go_enter Tryz.func43, Tryz.ntmps43
  go_wp2
  go_quiet (fail)
  go_wp2
  go_ret
  refine ⟨ret_kind ?_, _, rfl⟩
  rw [num2]
  simp (disch := omega) only [u16_or8]
  simp
  omega

set_option maxHeartbeats 400000 in
theorem u16_be (b o n c : Nat) (x y : UInt8) (w : World) (hn : 2 ≤ n)
    (c0 : w.cell? ⟨b, o, none⟩ = some (.int .u8 x.toNat)) (c1 : w.cell? ⟨b, o + 1, none⟩ = some (.int .u8 y.toNat)) :
    Calls Tryz.prog 43 #[.int .u8 1, .slice (some ⟨b, o, none⟩) n c] w fun e w' => e = .returned (.int .u16 (num true [x, y] : Nat)) ∧ ∃ q, w' = w.drewN q := by
  have hx := x.toNat_lt
  have hy := y.toNat_lt
  have hn0 : (0 : Int) < (n : Int) := by omega
  have hn1 : (1 : Int) < (n : Int) := by omega
  go_enter Tryz.func43, Tryz.ntmps43
  go_wp2
  go_quiet (fail)
  go_wp2
  go_ret
  refine ⟨ret_kind ?_, _, rfl⟩
  rw [num2]
  simp (disch := omega) only [u16_or8]
  simp
  omega

set_option maxHeartbeats 400000 in
theorem u32_le (b o n c : Nat) (x y z u : UInt8) (w : World) (hn : 4 ≤ n) (hc : n ≤ c)
    (c0 : w.cell? ⟨b, o, none⟩ = some (.int .u8 x.toNat)) (c1 : w.cell? ⟨b, o + 1, none⟩ = some (.int .u8 y.toNat)) (c2 : w.cell? ⟨b, o + 2, none⟩ = some (.int .u8 z.toNat)) (c3 : w.cell? ⟨b, o + 3, none⟩ = some (.int .u8 u.toNat)) :
    Calls Tryz.prog 33 #[.int .u8 0, .slice (some ⟨b, o, none⟩) n c] w fun e w' => e = .returned (.int .u32 (num false [x, y, z, u] : Nat)) ∧ ∃ q, w' = w.drewN q := by
  have h1 := num2_lt false x y
  have h2 := num2_lt false z u
  have hn3 : (3 : Int) < (n : Int) := by omega
  have hn2 : (2 : Int) ≤ (n : Int) := by omega
  have hc2 : c ≠ 2 := by omega
  go_enter Tryz.func33, Tryz.ntmps33
  go_wp2
  go_quiet ((go_at_call 43; first | (with_reducible refine Calls.quiet_of (u16_le b o n c x y _ ?_ ?_ ?_)) | (with_reducible refine Calls.quiet_of (u16_le b (o + 2) (n - 2) (c - 2) z u _ ?_ ?_ ?_))) <;> first | omega | (simp only [World.cell?_drewN, Nat.add_assoc, Nat.reduceAdd]; assumption))
  go_wp2
  go_ret
  refine ⟨ret_kind ?_, _, rfl⟩
  rw [num4]
  simp (disch := omega) only [u32_or16]
  simp
  omega

set_option maxHeartbeats 400000 in
theorem u32_be (b o n c : Nat) (x y z u : UInt8) (w : World) (hn : 4 ≤ n) (hc : n ≤ c)
    (c0 : w.cell? ⟨b, o, none⟩ = some (.int .u8 x.toNat)) (c1 : w.cell? ⟨b, o + 1, none⟩ = some (.int .u8 y.toNat)) (c2 : w.cell? ⟨b, o + 2, none⟩ = some (.int .u8 z.toNat)) (c3 : w.cell? ⟨b, o + 3, none⟩ = some (.int .u8 u.toNat)) :
    Calls Tryz.prog 33 #[.int .u8 1, .slice (some ⟨b, o, none⟩) n c] w fun e w' => e = .returned (.int .u32 (num true [x, y, z, u] : Nat)) ∧ ∃ q, w' = w.drewN q := by
  have h1 := num2_lt true x y
  have h2 := num2_lt true z u
  have hn3 : (3 : Int) < (n : Int) := by omega
  have hn2 : (2 : Int) ≤ (n : Int) := by omega
  have hc2 : c ≠ 2 := by omega
  go_enter Tryz.func33, Tryz.ntmps33
  go_wp2
  go_quiet ((go_at_call 43; first | (with_reducible refine Calls.quiet_of (u16_be b o n c x y _ ?_ ?_ ?_)) | (with_reducible refine Calls.quiet_of (u16_be b (o + 2) (n - 2) (c - 2) z u _ ?_ ?_ ?_))) <;> first | omega | (simp only [World.cell?_drewN, Nat.add_assoc, Nat.reduceAdd]; assumption))
  go_wp2
  go_ret
  refine ⟨ret_kind ?_, _, rfl⟩
  rw [num4]
  simp (disch := omega) only [or_comm16]
  simp
  omega

set_option maxHeartbeats 400000 in
theorem u64_le (b o n c : Nat) (x y z u p q r s : UInt8) (w : World) (hn : 8 ≤ n) (hc : n ≤ c)
    (c0 : w.cell? ⟨b, o, none⟩ = some (.int .u8 x.toNat)) (c1 : w.cell? ⟨b, o + 1, none⟩ = some (.int .u8 y.toNat)) (c2 : w.cell? ⟨b, o + 2, none⟩ = some (.int .u8 z.toNat)) (c3 : w.cell? ⟨b, o + 3, none⟩ = some (.int .u8 u.toNat)) (c4 : w.cell? ⟨b, o + 4, none⟩ = some (.int .u8 p.toNat)) (c5 : w.cell? ⟨b, o + 5, none⟩ = some (.int .u8 q.toNat)) (c6 : w.cell? ⟨b, o + 6, none⟩ = some (.int .u8 r.toNat)) (c7 : w.cell? ⟨b, o + 7, none⟩ = some (.int .u8 s.toNat)) :
    Calls Tryz.prog 58 #[.int .u8 0, .slice (some ⟨b, o, none⟩) n c] w fun e w' => e = .returned (.int .u64 (num false [x, y, z, u, p, q, r, s] : Nat)) ∧ ∃ q, w' = w.drewN q := by
  have h1 := num4_lt false x y z u
  have h2 := num4_lt false p q r s
  have hn3 : (7 : Int) < (n : Int) := by omega
  have hn2 : (4 : Int) ≤ (n : Int) := by omega
  have hc2 : c ≠ 4 := by omega
  go_enter Tryz.func58, Tryz.ntmps58
  go_wp2
  go_quiet ((go_at_call 33; first | (with_reducible refine Calls.quiet_of (u32_le b o n c x y z u _ ?_ ?_ ?_ ?_ ?_ ?_)) | (with_reducible refine Calls.quiet_of (u32_le b (o + 4) (n - 4) (c - 4) p q r s _ ?_ ?_ ?_ ?_ ?_ ?_))) <;> first | omega | (simp only [World.cell?_drewN, Nat.add_assoc, Nat.reduceAdd]; assumption))
  go_wp2
  go_ret
  refine ⟨ret_kind ?_, _, rfl⟩
  rw [num8]
  simp (disch := omega) only [u64_or32]
  simp
  omega

set_option maxHeartbeats 400000 in
theorem u64_be (b o n c : Nat) (x y z u p q r s : UInt8) (w : World) (hn : 8 ≤ n) (hc : n ≤ c)
    (c0 : w.cell? ⟨b, o, none⟩ = some (.int .u8 x.toNat)) (c1 : w.cell? ⟨b, o + 1, none⟩ = some (.int .u8 y.toNat)) (c2 : w.cell? ⟨b, o + 2, none⟩ = some (.int .u8 z.toNat)) (c3 : w.cell? ⟨b, o + 3, none⟩ = some (.int .u8 u.toNat)) (c4 : w.cell? ⟨b, o + 4, none⟩ = some (.int .u8 p.toNat)) (c5 : w.cell? ⟨b, o + 5, none⟩ = some (.int .u8 q.toNat)) (c6 : w.cell? ⟨b, o + 6, none⟩ = some (.int .u8 r.toNat)) (c7 : w.cell? ⟨b, o + 7, none⟩ = some (.int .u8 s.toNat)) :
    Calls Tryz.prog 58 #[.int .u8 1, .slice (some ⟨b, o, none⟩) n c] w fun e w' => e = .returned (.int .u64 (num true [x, y, z, u, p, q, r, s] : Nat)) ∧ ∃ q, w' = w.drewN q := by
  have h1 := num4_lt true x y z u
  have h2 := num4_lt true p q r s
  have hn3 : (7 : Int) < (n : Int) := by omega
  have hn2 : (4 : Int) ≤ (n : Int) := by omega
  have hc2 : c ≠ 4 := by omega
  go_enter Tryz.func58, Tryz.ntmps58
  go_wp2
  go_quiet ((go_at_call 33; first | (with_reducible refine Calls.quiet_of (u32_be b o n c x y z u _ ?_ ?_ ?_ ?_ ?_ ?_)) | (with_reducible refine Calls.quiet_of (u32_be b (o + 4) (n - 4) (c - 4) p q r s _ ?_ ?_ ?_ ?_ ?_ ?_))) <;> first | omega | (simp only [World.cell?_drewN, Nat.add_assoc, Nat.reduceAdd]; assumption))
  go_wp2
  go_ret
  refine ⟨ret_kind ?_, _, rfl⟩
  rw [num8]
  simp (disch := omega) only [or_comm32]
  simp
  omega

/-- The number of an order. -/
def ordn : Bool → Int
  | true => 1
  | false => 0
theorem list2 {l : List UInt8} (h : 2 ≤ l.length) : ∃ x y r, l = x :: y :: r := by
  match l, h with
  | x :: y :: r, _ => exact ⟨x, y, r, rfl⟩
theorem list4 {l : List UInt8} (h : 4 ≤ l.length) : ∃ x y z u r, l = x :: y :: z :: u :: r := by
  match l, h with
  | x :: y :: z :: u :: r, _ => exact ⟨x, y, z, u, r, rfl⟩
theorem list8 {l : List UInt8} (h : 8 ≤ l.length) : ∃ x y z u p q s t r, l = x :: y :: z :: u :: p :: q :: s :: t :: r := by
  match l, h with
  | x :: y :: z :: u :: p :: q :: s :: t :: r, _ => exact ⟨x, y, z, u, p, q, s, t, r, rfl⟩
theorem RB.get {w : World} {b o : Nat} {l : List UInt8} (h : RB w (some ⟨b, o, none⟩) l) (i : Nat) (x : UInt8) (hx : l[i]? = some x) : w.cell? ⟨b, o + i, none⟩ = some (.int .u8 (x.toNat : Int)) := by
  obtain ⟨hi, rfl⟩ := List.getElem?_eq_some_iff.1 hx
  exact h.at hi


theorem u16_RB (big : Bool) (b o n c : Nat) (l : List UInt8) (w : World) (h : RB w (some ⟨b, o, none⟩) l) (hl : 2 ≤ l.length) (hn : 2 ≤ n) (hc : n ≤ c) :
    Calls Tryz.prog 43 #[.int .u8 (ordn big), .slice (some ⟨b, o, none⟩) n c] w fun e w' => e = .returned (.int .u16 (num big (l.take 2) : Nat)) ∧ ∃ q, w' = w.drewN q := by
  obtain ⟨x, y, r, rfl⟩ := list2 hl
  cases big
  · exact u16_le b o n c x y w hn (h.get 0 x rfl) (h.get 1 y rfl)
  · exact u16_be b o n c x y w hn (h.get 0 x rfl) (h.get 1 y rfl)

theorem u32_RB (big : Bool) (b o n c : Nat) (l : List UInt8) (w : World) (h : RB w (some ⟨b, o, none⟩) l) (hl : 4 ≤ l.length) (hn : 4 ≤ n) (hc : n ≤ c) :
    Calls Tryz.prog 33 #[.int .u8 (ordn big), .slice (some ⟨b, o, none⟩) n c] w fun e w' => e = .returned (.int .u32 (num big (l.take 4) : Nat)) ∧ ∃ q, w' = w.drewN q := by
  obtain ⟨x, y, z, u, r, rfl⟩ := list4 hl
  cases big
  · exact u32_le b o n c x y z u w hn hc (h.get 0 x rfl) (h.get 1 y rfl) (h.get 2 z rfl) (h.get 3 u rfl)
  · exact u32_be b o n c x y z u w hn hc (h.get 0 x rfl) (h.get 1 y rfl) (h.get 2 z rfl) (h.get 3 u rfl)

theorem u64_RB (big : Bool) (b o n c : Nat) (l : List UInt8) (w : World) (h : RB w (some ⟨b, o, none⟩) l) (hl : 8 ≤ l.length) (hn : 8 ≤ n) (hc : n ≤ c) :
    Calls Tryz.prog 58 #[.int .u8 (ordn big), .slice (some ⟨b, o, none⟩) n c] w fun e w' => e = .returned (.int .u64 (num big (l.take 8) : Nat)) ∧ ∃ q, w' = w.drewN q := by
  obtain ⟨x, y, z, u, p, q, s, t, r, rfl⟩ := list8 hl
  cases big
  · exact u64_le b o n c x y z u p q s t w hn hc (h.get 0 x rfl) (h.get 1 y rfl) (h.get 2 z rfl) (h.get 3 u rfl) (h.get 4 p rfl) (h.get 5 q rfl) (h.get 6 s rfl) (h.get 7 t rfl)
  · exact u64_be b o n c x y z u p q s t w hn hc (h.get 0 x rfl) (h.get 1 y rfl) (h.get 2 z rfl) (h.get 3 u rfl) (h.get 4 p rfl) (h.get 5 q rfl) (h.get 6 s rfl) (h.get 7 t rfl)
end Go.Proofs.YtbpebngjpecncaaGreatDoor
