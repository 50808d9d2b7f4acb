/-
  Symbols one behind the other: what they are; the contracts of sliceCapWithSize, readCOFFSymbols.
-/
import Derived.Test.YthnlimhpnonnmaaDoorRRRPeAuxLaw
import Derived.Test.YthnlimhpnonnmaaDoorRRRSeek
import Derived.Test.YthnlimhpnonnmaaDoorRRRRecs
namespace Go.Proofs.YthnlimhpnonnmaaDoorRRR
set_option linter.unusedVariables false
set_option linter.unusedSimpArgs false
open Go Go.RowKit
attribute [local go_sem ↓] Go.wp_at_zero Go.wp_at_succ

/-- The bytes of record k; how many auxiliary ones a record tells; the records of the first k, and how many auxiliary ones are still to come. -/
def blk (s : List UInt8) (k : Nat) : List UInt8 := (s.drop (18 * k)).take 18
def auxN (b : List UInt8) : Nat := num false ((b.drop 17).take 1)
def symSt (s : List UInt8) : Nat → List CoffL × Nat
  | 0 => ([], 0)
  | k + 1 => if (symSt s k).2 = 0 then ((symSt s k).1 ++ [coffL (blk s k)], auxN (blk s k)) else ((symSt s k).1 ++ [auxL (blk s k)], (symSt s k).2 - 1)
def symRow (s : List UInt8) (k : Nat) : List Value := ((symSt s k).1.map symCells).flatten
theorem symSt_zero {s : List UInt8} {k : Nat} (h : (symSt s k).2 = 0) : symSt s (k + 1) = ((symSt s k).1 ++ [coffL (blk s k)], auxN (blk s k)) := by rw [symSt, if_pos h]
theorem symSt_pos {s : List UInt8} {k : Nat} (h : (symSt s k).2 ≠ 0) : symSt s (k + 1) = ((symSt s k).1 ++ [auxL (blk s k)], (symSt s k).2 - 1) := by rw [symSt, if_neg h]
theorem symRow_zero {s : List UInt8} {k : Nat} (h : (symSt s k).2 = 0) : symRow s (k + 1) = symRow s k ++ symCells (coffL (blk s k)) := by simp [symRow, symSt_zero h]
theorem symRow_pos {s : List UInt8} {k : Nat} (h : (symSt s k).2 ≠ 0) : symRow s (k + 1) = symRow s k ++ symCells (auxL (blk s k)) := by simp [symRow, symSt_pos h]
theorem symSt_len (s : List UInt8) : ∀ k, (symSt s k).1.length = k
  | 0 => rfl
  | k + 1 => by
    by_cases h : (symSt s k).2 = 0
    · rw [symSt_zero h]; simp [symSt_len s k]
    · rw [symSt_pos h]; simp [symSt_len s k]
theorem auxN_lt (b : List UInt8) : auxN b < 256 := wrap_kind false (b.drop 17) 1 256 (by decide)
theorem symSt_lt (s : List UInt8) : ∀ k, (symSt s k).2 < 256
  | 0 => by show 0 < 256; decide
  | k + 1 => by
    have := symSt_lt s k
    by_cases h : (symSt s k).2 = 0
    · rw [symSt_zero h]; exact auxN_lt _
    · rw [symSt_pos h]; simp only; omega

set_option maxHeartbeats 400000 in
theorem sliceCap_any (n : Nat) (hn : n ≤ 500000) (w : World) : Calls Tryd.prog 56 #[.int .u64 20, .int .u64 n] w fun e w' => e = .returned (.int .i64 n) ∧ w = w' := by
  have q1 : IntKind.i64.wrap (n : Int) = (n : Int) := IntWalk.i64_in _ (by omega)
  have q2 : IntKind.u64.wrap (n : Int) = (n : Int) := IntWalk.u64_in _ (by omega)
  have q3 : ¬ ((n : Int) < 0) := by omega
  have q4 : IntKind.u64.wrap ((n : Int) * 20) = (n : Int) * 20 := IntWalk.u64_in _ (by omega)
  have q5 : ¬ ((922337203685477580 : Int) < (n : Int)) := by omega
  have q6 : ¬ ((10485760 : Int) < (n : Int) * 20) := by omega
  go_enter Tryd.func56, Tryd.ntmps56
  go_wp2
  go_ret
  exact ⟨rfl, rfl⟩

theorem rc_newN {w : World} {vs : List Value} {T : TypeId} {k size n : Nat} (hk : k = w.heap.size) (hn : vs.length = n * size) : RC (w.alloc (.cells vs.toArray T)) (some ⟨k, 0, none⟩) size n vs := by
  subst hk
  refine ⟨hn, fun _ => ⟨_, rfl, fun j u hu => ?_⟩⟩
  rw [add_off, Nat.zero_add]
  exact World.cell?_of_row (heap_alloc_new w (.cells vs.toArray T)) j u hu

theorem Tryd.infoSym : (Tryd.prog.info? 68).map (fun i => (i.zero, i.size, i.bytes)) = some (some (.agg #[.int .u8 0, .int .u8 0, .int .u8 0, .int .u8 0, .int .u8 0, .int .u8 0, .int .u8 0, .int .u8 0, .int .u32 0, .int .i16 0, .int .u16 0, .int .u8 0, .int .u8 0]), 13, 20) := by kernel_rfl
theorem makeSyms (n : Nat) (hn : n ≤ 500000) : ∃ cur : Array Value, cur.size = n * 13 ∧ ∀ w, (Instr.makeSlice 89 (.int .i64 0) (.int .i64 (n : Int))).run Tryd.prog w = .ok (.slice (some ⟨w.heap.size, 0, none⟩) 0 n) (w.alloc (.cells cur 68)) := by
  obtain ⟨i0, hi, hz0, hz1, hz2⟩ := info_parts Tryd.infoSym
  refine ⟨madeCells (Value.cells (.agg #[.int .u8 0, .int .u8 0, .int .u8 0, .int .u8 0, .int .u8 0, .int .u8 0, .int .u8 0, .int .u8 0, .int .u32 0, .int .i16 0, .int .u16 0, .int .u8 0, .int .u8 0])) (n * i0.size), by rw [size_madeCells, hz1], fun w => ?_⟩
  have hr := run_make (P := Tryd.prog) w 89 68 i0 _ Tryd.underlying89 hi hz0 .i64 .i64 0 n (by omega) (by omega) (by rw [hz2]; omega) (by omega)
  simpa using hr
end Go.Proofs.YthnlimhpnonnmaaDoorRRR
