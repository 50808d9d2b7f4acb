/-
  Symbols of Mach-O: what they are; the contract of parseSymtab.
-/
import Derived.Test.YtmgmmdhaklokjaaDoorMStr
import Derived.Test.YtmgmmdhaklokjaaDoorRNlist64
import Derived.Test.YtmgmmdhaklokjaaDoorRNlist32
import Derived.Test.YtmgmmdhaklokjaaDoorPush0
namespace Go.Proofs.YtmgmmdhaklokjaaDoor
set_option linter.unusedVariables false
set_option linter.unusedSimpArgs false
open Go Go.RowKit
attribute [local go_sem ↓] Go.wp_at_zero Go.wp_at_succ

/-- How many bytes a symbol has; its numbers. -/
def symW (wide : Bool) : Nat := if wide then 16 else 12
def mNm (wide big : Bool) (s : List UInt8) (k : Nat) : Nat := num big ((s.drop (symW wide * k)).take 4)
def mTy (wide big : Bool) (s : List UInt8) (k : Nat) : Nat := num big ((s.drop (symW wide * k + 4)).take 1)
def mSe (wide big : Bool) (s : List UInt8) (k : Nat) : Nat := num big ((s.drop (symW wide * k + 5)).take 1)
def mDe (wide big : Bool) (s : List UInt8) (k : Nat) : Nat := num big ((s.drop (symW wide * k + 6)).take 2)
def mVa (wide big : Bool) (s : List UInt8) (k : Nat) : Nat := num big ((s.drop (symW wide * k + 8)).take (if wide then 8 else 4))
/-- Is it there, and its name in the table? Its name; its cells. -/
def mGood (wide big : Bool) (s t : List UInt8) (k : Nat) : Bool := decide (symW wide * (k + 1) ≤ s.length) && decide (mNm wide big s k < t.length)
def mText (wide big : Bool) (s t : List UInt8) (k : Nat) : List UInt8 := strip (text (t.drop (mNm wide big s k)))
def mCells (wide big : Bool) (s t : List UInt8) (k : Nat) : List Value := [.string ⟨(mText wide big s t k).toArray⟩, .int .u8 (mTy wide big s k : Int), .int .u8 (mSe wide big s k : Int), .int .u16 (mDe wide big s k : Int), .int .u64 (mVa wide big s k : Int)]
def mRow (wide big : Bool) (s t : List UInt8) (n : Nat) : List Value := ((List.range n).map (mCells wide big s t)).flatten
theorem mRow_succ (wide big : Bool) (s t : List UInt8) (n : Nat) : mRow wide big s t (n + 1) = mRow wide big s t n ++ mCells wide big s t n := by simp [mRow, List.range_succ]
theorem mRow_at (wide big : Bool) (s t : List UInt8) (n k : Nat) (hk : k < n) (i : Nat) (u : Value) (hu : (mCells wide big s t k)[i]? = some u) : (mRow wide big s t n)[k * 5 + i]? = some u :=
  flatten_at _ 5 (fun c hc => by
    obtain ⟨q, _, rfl⟩ := List.mem_map.1 hc
    rfl) k _ (by simp [hk]) i u hu
theorem num1_lt (big : Bool) (l : List UInt8) (k m : Nat) (hm : 256 ^ k ≤ m) : num big (l.take k) < m :=
  Nat.lt_of_lt_of_le (num_lt big (l.take k)) (Nat.le_trans (Nat.pow_le_pow_right (by omega) (by simp; omega)) hm)
theorem fR64_eq (big : Bool) (s : List UInt8) (k : Nat) : fRNlist64 big ((s.drop (16 * k)).take 16) = [.int .u32 (mNm true big s k : Int), .int .u8 (mTy true big s k : Int), .int .u8 (mSe true big s k : Int), .int .u16 (mDe true big s k : Int), .int .u64 (mVa true big s k : Int)] := by
  simp [fRNlist64, mNm, mTy, mSe, mDe, mVa, symW, List.take_take, List.drop_take, List.drop_drop]
theorem fR32_eq (big : Bool) (s : List UInt8) (k : Nat) : fRNlist32 big ((s.drop (12 * k)).take 12) = [.int .u32 (mNm false big s k : Int), .int .u8 (mTy false big s k : Int), .int .u8 (mSe false big s k : Int), .int .u16 (mDe false big s k : Int), .int .u32 (mVa false big s k : Int)] := by
  simp [fRNlist32, mNm, mTy, mSe, mDe, mVa, symW, List.take_take, List.drop_take, List.drop_drop]
theorem owns_ne {w : World} {base : Nat} {e T : TypeId} {size : Nat} {v : Value} {n M : Nat} {xs : List Value} {cs : Array Value} {fr : Nat × Nat} (h : w.ownsRow base e size v n xs) (hM : w.heap[M]? = some (.cells cs T fr)) (hT : T ≠ e) : v.ownBlock ≠ some M := by
  intro he
  rcases h.2 with ⟨rfl, _⟩ | ⟨g, cap, cur, rfl, _, hg, _⟩
  · simp [Value.ownBlock] at he
  · have : g = M := by simpa [Value.ownBlock] using he
    subst this
    rw [hg] at hM
    injection hM with hM
    injection hM with _ h2
    exact hT h2.symm

theorem Tryd.infoMSym : (Tryd.prog.info? 94).map (fun i => (i.zero, i.size, i.bytes)) = some (some (.agg #[.string ⟨#[]⟩, .int .u8 0, .int .u8 0, .int .u16 0, .int .u64 0]), 5, 32) := by kernel_rfl
theorem makeSyms (n : Nat) (hn : n ≤ 65535) : ∃ cur : List Value, Hid (cur.length = n * 5) ∧ ∀ w, (Instr.makeSlice 52 (.int .i64 0) (.int .i64 (n : Int))).run Tryd.prog w = .ok (.slice (some ⟨w.heap.size, 0, none⟩) 0 n) (w.alloc (.cells cur.toArray 94)) := by
  obtain ⟨i0, hi, hz0, hz1, hz2⟩ := info_parts Tryd.infoMSym
  refine ⟨(madeCells (Value.cells (.agg #[.string ⟨#[]⟩, .int .u8 0, .int .u8 0, .int .u16 0, .int .u64 0])) (n * i0.size)).toList, Lib.hid (by rw [Array.length_toList, size_madeCells, hz1]), fun w => ?_⟩
  have hr := run_make (P := Tryd.prog) w 52 94 i0 _ Tryd.underlying52 hi hz0 .i64 .i64 0 n (by omega) (by omega) (by rw [hz2]; omega) (by omega)
  simpa using hr

set_option maxHeartbeats 400000 in
theorem sliceCap_32 (n : Nat) (hn : n ≤ 100000) (w : World) : Calls Tryd.prog 30 #[.int .u64 32, .int .u64 n] w fun e w' => e = .returned (.int .i64 n) ∧ w = w' := by
  have q1 : IntKind.i64.wrap (n : Int) = (n : Int) := IntWalk.i64_in _ (by omega)
  have q2 : IntKind.u64.wrap (n : Int) = (n : Int) := IntWalk.u64_in _ (by omega)
  have q3 : ¬ ((n : Int) < 0) := by omega
  have q4 : IntKind.u64.wrap ((n : Int) * 32) = (n : Int) * 32 := IntWalk.u64_in _ (by omega)
  have q5 : ¬ ((576460752303423487 : Int) < (n : Int)) := by omega
  have q6 : ¬ ((10485760 : Int) < (n : Int) * 32) := by omega
  go_enter Tryd.func30, Tryd.ntmps30
  go_wp2
  go_ret
  exact ⟨rfl, rfl⟩

set_option maxHeartbeats 400000 in
theorem sliceCap_16 (n : Nat) (hn : n ≤ 100000) (w : World) : Calls Tryd.prog 30 #[.int .u64 16, .int .u64 n] w fun e w' => e = .returned (.int .i64 n) ∧ w = w' := by
  have q1 : IntKind.i64.wrap (n : Int) = (n : Int) := IntWalk.i64_in _ (by omega)
  have q2 : IntKind.u64.wrap (n : Int) = (n : Int) := IntWalk.u64_in _ (by omega)
  have q3 : ¬ ((n : Int) < 0) := by omega
  have q4 : IntKind.u64.wrap ((n : Int) * 16) = (n : Int) * 16 := IntWalk.u64_in _ (by omega)
  have q5 : ¬ ((1152921504606846975 : Int) < (n : Int)) := by omega
  have q6 : ¬ ((10485760 : Int) < (n : Int) * 16) := by omega
  go_enter Tryd.func30, Tryd.ntmps30
  go_wp2
  go_ret
  exact ⟨rfl, rfl⟩

/-- What parseSymtab gives back. -/
def ParsePost (wide big : Bool) (s t : List UInt8) (n : Nat) (cd : Value) (w : World) (e : Ending) (w' : World) : Prop :=
  ((∀ k, k < n → mGood wide big s t k = true) ∧ ∃ S v, e = .returned (.tuple #[.pointer (some ⟨S, 0, none⟩), .nilIface]) ∧ Hid (w'.heap[S]? = some (.cells #[cd, .int .u32 0, .int .u32 0, .int .u32 0, .int .u32 0, .int .u32 0, .int .u32 0, v] 93 (0, 0))) ∧ Hid (w.heap.size ≤ S) ∧ Hid (w'.ownsRow w.heap.size 94 5 v n (mRow wide big s t n))) ∨
  ((∃ k, k < n ∧ mGood wide big s t k = false) ∧ ∃ T x, e = .returned (.tuple #[.pointer none, .iface T x]))
end Go.Proofs.YtmgmmdhaklokjaaDoor
