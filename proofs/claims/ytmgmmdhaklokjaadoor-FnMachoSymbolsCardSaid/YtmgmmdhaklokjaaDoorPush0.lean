/-
  A section is pushed: the contract of pushSection.
-/
import Derived.Test.YtmgmmdhaklokjaaDoorAt
import Derived.Test.YtmgmmdhaklokjaaDoorRelocInfo
import Derived.Laws.BitsAllLaws
namespace Go.Proofs.YtmgmmdhaklokjaaDoor
set_option linter.unusedVariables false
set_option linter.unusedSimpArgs false
open Go Go.RowKit
attribute [local go_sem ↓] Go.wp_at_zero Go.wp_at_succ

theorem Tryd.infoSecP : (Tryd.prog.info? 96).map (fun i => (i.zero, i.size, i.bytes)) = some (some (.pointer none), 1, 8) := by kernel_rfl
theorem Tryd.infoRel : (Tryd.prog.info? 107).map (fun i => (i.zero, i.size, i.bytes)) = some (some (.agg #[.int .u32 0, .int .u32 0, .int .u8 0, .int .u8 0, .bool false, .bool false, .bool false]), 7, 16) := by kernel_rfl

theorem cell_set_alloc {w : World} {V i j : Nat} {x : Value} {o : Obj} (hV : V < w.heap.size) (h : j ≠ i) : ((w.setCell ⟨V, j, none⟩ x).alloc o).drew.cell? ⟨V, i, none⟩ = w.cell? ⟨V, i, none⟩ := by
  have h1 : ((w.setCell ⟨V, j, none⟩ x).alloc o).drew.cell? ⟨V, i, none⟩ = (w.setCell ⟨V, j, none⟩ x).cell? ⟨V, i, none⟩ :=
    ((((Below.refl _ _).alloc (Nat.le_refl _) o).drew).cell (p := ⟨V, i, none⟩) (by simpa using hV))
  rw [h1]
  refine World.cell?_setCell_other _ _ _ _ ?_
  intro e
  injection e with e1 e2
  exact h e2

/-- A relocation's cells out of its two words. -/
def relCells (big : Bool) (a b : Nat) : List Value :=
  if 2147483648 ≤ a then [.int .u32 ((a % 16777216 : Nat) : Int), .int .u32 (b : Int), .int .u8 ((a / 16777216 % 16 : Nat) : Int), .int .u8 ((a / 268435456 % 4 : Nat) : Int), .bool (a.testBit 30), .bool false, .bool true]
  else if big then [.int .u32 (a : Int), .int .u32 ((b / 256 : Nat) : Int), .int .u8 ((b % 16 : Nat) : Int), .int .u8 ((b / 32 % 4 : Nat) : Int), .bool (b.testBit 7), .bool (b.testBit 4), .bool false]
  else [.int .u32 (a : Int), .int .u32 ((b % 16777216 : Nat) : Int), .int .u8 ((b / 268435456 % 16 : Nat) : Int), .int .u8 ((b / 33554432 % 4 : Nat) : Int), .bool (b.testBit 24), .bool (b.testBit 27), .bool false]
theorem relCells_len (big : Bool) (a b : Nat) : (relCells big a b).length = 7 := by
  unfold relCells
  split
  · rfl
  · split <;> rfl
/-- The words of relocation k. -/
def relA (big : Bool) (s : List UInt8) (k : Nat) : Nat := num big ((s.drop (8 * k)).take 4)
def relB (big : Bool) (s : List UInt8) (k : Nat) : Nat := num big ((s.drop (8 * k + 4)).take 4)
def relRow (big : Bool) (s : List UInt8) (n : Nat) : List Value := ((List.range n).map fun k => relCells big (relA big s k) (relB big s k)).flatten

theorem and_bit (x k : Nat) (hx : x < 4294967296) (hk : k < 32) : bits .and .u32 (x : Int) ((2 ^ k : Nat) : Int) = ((if x.testBit k then 2 ^ k else 0 : Nat) : Int) := by
  have h2 : 2 ^ k < 4294967296 := Nat.lt_of_le_of_lt (Nat.pow_le_pow_right (by omega) (show k ≤ 31 by omega)) (by decide)
  rw [u32_and_nat x (2 ^ k) hx h2]
  congr 1
  apply Nat.eq_of_testBit_eq
  intro i
  rw [Nat.testBit_and, Nat.testBit_two_pow]
  by_cases h : k = i
  · subst h
    cases hb : x.testBit k <;> simp
  · cases x.testBit k <;> simp [h, Nat.testBit_two_pow]
theorem and_mask (x k : Nat) (hx : x < 4294967296) (hk : k ≤ 24) : bits .and .u32 (x : Int) ((2 ^ k - 1 : Nat) : Int) = ((x % 2 ^ k : Nat) : Int) := by
  have h2 : 2 ^ k ≤ 16777216 := Nat.pow_le_pow_right (by omega) (show k ≤ 24 by omega)
  rw [u32_and_nat x (2 ^ k - 1) hx (by omega), Nat.and_two_pow_sub_one_eq_mod]
theorem bool_bit (t : Bool) (m : Nat) (hm : 0 < m) : (((if t = true then m else 0 : Nat) : Int) != 0) = t := by
  cases t
  · simp
  · simp; omega
theorem bit31 (x : Nat) (hx : x < 4294967296) : x.testBit 31 = decide (2147483648 ≤ x) := by
  rw [Nat.testBit_eq_decide_div_mod_eq]
  rw [Bool.eq_iff_iff, decide_eq_true_iff, decide_eq_true_iff]
  omega

theorem made_flat (z : Array Value) (n : Nat) : (madeCells z (n * z.size)).toList = (List.replicate n z.toList).flatten := by
  induction n with
  | zero => simp [madeCells]
  | succ n ih =>
    have e : madeCells z ((n + 1) * z.size) = madeCells z (n * z.size) ++ z := by
      apply Array.ext
      · simp [size_madeCells, Nat.succ_mul]
      · intro i h1 h2
        rw [size_madeCells, Nat.succ_mul] at h1
        by_cases hi : i < n * z.size
        · rw [Array.getElem_append_left (by rw [size_madeCells]; exact hi)]
          simp [madeCells]
        · rw [Array.getElem_append_right (by rw [size_madeCells]; omega)]
          have hm : i % z.size = i - n * z.size := by
            obtain ⟨j, rfl⟩ : ∃ j, i = n * z.size + j := ⟨i - n * z.size, by omega⟩
            rw [Nat.mul_comm, Nat.mul_add_mod, Nat.mod_eq_of_lt (by rw [Nat.mul_comm] at h1; omega)]
            omega
          simp only [madeCells, Array.getElem_map, Array.getElem_range, hm, Array.size_map, Array.size_range]
          exact getElem!_pos z _ (by omega)
    rw [e, Array.toList_append, ih, List.replicate_succ', List.flatten_append]
    simp

/-- New relocations, all nought. -/
def zerosL : Nat → List Value
  | 0 => []
  | n + 1 => [.int .u32 0, .int .u32 0, .int .u8 0, .int .u8 0, .bool false, .bool false, .bool false] ++ zerosL n
theorem zerosL_flat : ∀ n, (List.replicate n [.int .u32 0, .int .u32 0, .int .u8 0, .int .u8 0, .bool false, .bool false, .bool false]).flatten = zerosL n
  | 0 => rfl
  | n + 1 => by
    rw [List.replicate_succ, List.flatten_cons, zerosL_flat n]
    rfl
theorem makeRels (k : IntKind) (n : Nat) (hn : n ≤ 131072) (w : World) : (Instr.makeSlice 69 (.int k (n : Int)) (.int k (n : Int))).run Tryd.prog w = .ok (.slice (some ⟨w.heap.size, 0, none⟩) n n) (w.alloc (.cells (zerosL n).toArray 107)) := by
  obtain ⟨i0, hi, hz0, hz1, hz2⟩ := info_parts Tryd.infoRel
  have hr := run_make (P := Tryd.prog) w 69 107 i0 _ Tryd.underlying69 hi hz0 k k n n (by omega) (by omega) (by rw [hz2]; omega) (by omega)
  have e : madeCells (Value.cells (.agg #[.int .u32 0, .int .u32 0, .int .u8 0, .int .u8 0, .bool false, .bool false, .bool false])) (((n : Int)).toNat * i0.size) = (zerosL n).toArray := by
    rw [hz1]
    apply Array.toList_inj.1
    have := made_flat #[.int .u32 0, .int .u32 0, .int .u8 0, .int .u8 0, .bool false, .bool false, .bool false] n
    rw [← zerosL_flat]
    simpa [Value.cells] using this
  rw [e] at hr
  simpa using hr
theorem relRow_succ (big : Bool) (s : List UInt8) (n : Nat) : relRow big s (n + 1) = relRow big s n ++ relCells big (relA big s n) (relB big s n) := by simp [relRow, List.range_succ]
theorem relRow_len (big : Bool) (s : List UInt8) : ∀ n, (relRow big s n).length = n * 7
  | 0 => rfl
  | n + 1 => by rw [relRow_succ, List.length_append, relRow_len big s n, relCells_len]; omega
theorem relRow_take (big : Bool) (s : List UInt8) (m : Nat) : ∀ n, n ≤ m → relRow big (s.take (8 * m)) n = relRow big s n
  | 0, _ => rfl
  | n + 1, h => by
    rw [relRow_succ, relRow_succ, relRow_take big s m n (by omega)]
    have h1 : min 4 (8 * m - 8 * n) = 4 := by omega
    have h2 : min 4 (8 * m - (8 * n + 4)) = 4 := by omega
    simp [relA, relB, List.drop_take, List.take_take, h1, h2]
theorem relA_lt (big : Bool) (s : List UInt8) (k : Nat) : relA big s k < 4294967296 := by
  have h := num_lt big ((s.drop (8 * k)).take 4)
  have h2 : 256 ^ ((s.drop (8 * k)).take 4).length ≤ 256 ^ 4 := Nat.pow_le_pow_right (by omega) (by simp; omega)
  unfold relA
  omega
theorem relB_lt (big : Bool) (s : List UInt8) (k : Nat) : relB big s k < 4294967296 := by
  have h := num_lt big ((s.drop (8 * k + 4)).take 4)
  have h2 : 256 ^ ((s.drop (8 * k + 4)).take 4).length ≤ 256 ^ 4 := Nat.pow_le_pow_right (by omega) (by simp; omega)
  unfold relB
  omega
theorem frel_eq (big : Bool) (s : List UInt8) (k : Nat) : frelocInfo big ((s.drop (8 * k)).take 8) = [.int .u32 (relA big s k : Int), .int .u32 (relB big s k : Int)] := by
  simp [frelocInfo, relA, relB, List.take_take, List.drop_take, List.drop_drop]
end Go.Proofs.YtmgmmdhaklokjaaDoor
