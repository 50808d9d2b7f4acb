/-
  Moving a reader to a place; a new error.
-/
import Derived.Test.YthnlimhpnonnmaaDoorRRRRdr
import Derived.Test.YthnlimhpnonnmaaDoorRRRGen
namespace Go.Proofs.YthnlimhpnonnmaaDoorRRR
set_option linter.unusedVariables false
set_option linter.unusedSimpArgs false
open Go Go.RowKit

set_option maxHeartbeats 400000 in
theorem errNew (s : ByteArray) (w : World) : Calls Tryd.prog 54 #[.string s] w fun e w' => (∃ T v, e = .returned (.iface T v)) ∧ Below w.heap.size w w' := by
  go_enter Tryd.func54, Tryd.ntmps54
  go_wp2
  go_ret
  exact ⟨⟨_, _, rfl⟩, (Below.refl _ _).alloc (Nat.le_refl _) _⟩

/-- What a reader of bytes is, laid open; how it is put together again at another place. -/
theorem Rdr.opened {w : World} {rd : Value} {M : Nat} {D : Nat → Prop} {l : List UInt8} {pos : Nat} (h : Rdr w rd M D l pos) :
    ∃ A n c pv, rd = .iface 97 (.pointer (some ⟨M, 0, none⟩)) ∧ Hid (w.heap[M]? = some (.cells #[.slice A n c, .int .i64 (pos : Int), pv] 116 (0, 0))) ∧
      ∀ (w' : World) (off : Nat) (pv' : Value), off ≤ 4294967296 → Chg (· = M) w w' → w'.heap[M]? = some (.cells #[.slice A n c, .int .i64 (off : Int), pv'] 116 (0, 0)) → Rdr w' rd M D l off := by
  obtain ⟨A, n, c, pv, e, hn, hnc, hR, hA, hd⟩ := h.is
  exact ⟨A, n, c, pv, e, Lib.hid hR, fun w' off pv' ho hc hR' => ⟨h.len, ho, h.m3, Nat.lt_of_lt_of_le h.lt hc.size, fun k hk => ⟨Nat.lt_of_lt_of_le (h.d k hk).1 hc.size, (h.d k hk).2⟩,
    A, n, c, pv', e, hn, hnc, hR', hA.chg hc (fun a ha e => (h.d _ (hd a ha)).2 e), hd⟩⟩

theorem Rdr.drew {w : World} {rd : Value} {M : Nat} {D : Nat → Prop} {l : List UInt8} {pos : Nat} (h : Rdr w rd M D l pos) : Rdr w.drew rd M D l pos :=
  h.chg (S := fun _ => False) ⟨rfl, rfl, rfl, Nat.le_refl _, fun _ _ _ => rfl⟩ id (fun _ _ => id)
theorem Chg.undrew {S : Nat → Prop} {a b : World} (h : Chg S a.drew b) : Chg S a b := ⟨h.os, h.tape, h.output, h.size, h.block⟩

set_option maxHeartbeats 400000 in
theorem seek_any (M : Nat) (A : Option Addr) (n c off : Nat) (p pv : Value) (TR : TypeId) (w : World) (ho : off ≤ 4294967296) (hR : Hid (w.heap[M]? = some (.cells #[.slice A n c, p, pv] TR (0, 0)))) :
    Calls Tryd.prog 80 #[.pointer (some ⟨M, 0, none⟩), .int .i64 off, .int .i64 0] w fun e w' => e = .returned (.tuple #[.int .i64 off, .nilIface]) ∧
      Hid (w'.heap[M]? = some (.cells #[.slice A n c, .int .i64 off, .int .i64 (-1)] TR (0, 0))) ∧ Chg (· = M) w w' ∧ w'.heap.size = w.heap.size := by
  have c1 : w.cell? ⟨M, 1, none⟩ = some p := cell_of_row w M 1 _ _ _ hR.out
  have c2 : w.cell? ⟨M, 2, none⟩ = some pv := cell_of_row w M 2 _ _ _ hR.out
  have f1 := frozen_of_row w M 1 _ _ hR.out
  have f2 := frozen_of_row w M 2 _ _ hR.out
  have h0 : (0 : Int) ≤ (off : Int) := by omega
  have hlt : ¬ ((off : Int) < 0) := by omega
  go_enter Tryd.func80, Tryd.ntmps80
  go_wp2
  go_ret2
  refine ⟨rfl, ?_, ((Chg.refl (· = M) w).setCell ⟨M, 2, none⟩ _ (.inl rfl)).setCell ⟨M, 1, none⟩ _ (.inl rfl), by simp⟩
  have h1 : (w.setCell ⟨M, 2, none⟩ (.int .i64 (-1))).heap[M]? = some (.cells #[.slice A n c, p, .int .i64 (-1)] TR (0, 0)) := heap_setCell_same w M 2 _ TR _ hR.out
  exact Lib.hid (heap_setCell_same _ M 1 _ TR _ h1)

theorem nilSeek (f : Nat) (a : Addr) (w : World) : (nilAhead (f + 1) 97 (.pointer (some a)) "Seek").run Tryd.prog w = .ok (some false) w := by kernel_rfl
theorem methodSeek (f : Nat) (a : Addr) (w : World) : (method (f + 1) 97 (.pointer (some a)) "Seek").run Tryd.prog w = .ok (80, .pointer (some a)) w := by kernel_rfl

theorem made_flat (z : Array Value) (n : Nat) : (madeCells z (n * z.size)).toList = (List.replicate n z.toList).flatten := by
  induction n with
  | zero => simp [madeCells]
  | succ n ih =>
    have e : madeCells z ((n + 1) * z.size) = madeCells z (n * z.size) ++ z := by
      apply Array.ext
      · simp [size_madeCells, Nat.succ_mul]
      · intro i h1 h2
        rw [size_madeCells, Nat.succ_mul] at h1
        by_cases hi : i < n * z.size
        · rw [Array.getElem_append_left (by rw [size_madeCells]; exact hi)]
          simp [madeCells]
        · rw [Array.getElem_append_right (by rw [size_madeCells]; omega)]
          have hm : i % z.size = i - n * z.size := by
            obtain ⟨j, rfl⟩ : ∃ j, i = n * z.size + j := ⟨i - n * z.size, by omega⟩
            rw [Nat.mul_comm, Nat.mul_add_mod, Nat.mod_eq_of_lt (by rw [Nat.mul_comm] at h1; omega)]
            omega
          simp only [madeCells, Array.getElem_map, Array.getElem_range, hm, Array.size_map, Array.size_range]
          exact getElem!_pos z _ (by omega)
    rw [e, Array.toList_append, ih, List.replicate_succ', List.flatten_append]
    simp
end Go.Proofs.YthnlimhpnonnmaaDoorRRR
