/-
  Moving a section that is the whole of a reader; a new one; a new error.
-/
import Derived.Test.YtbpebngjpecncaaGreatDoorSecRd
namespace Go.Proofs.YtbpebngjpecncaaGreatDoor
set_option linter.unusedVariables false
set_option linter.unusedSimpArgs false
set_option maxRecDepth 100000
open Go Go.RowKit
attribute [local go_sem ↓] Go.wp_at_zero Go.wp_at_succ

set_option maxHeartbeats 400000 in
theorem errNew (s : ByteArray) (w : World) : Calls Tryz.prog 30 #[.string s] w fun e w' => (∃ T v, e = .returned (.iface T v)) ∧ Below w.heap.size w w' := by
  go_enter Tryz.func30, Tryz.ntmps30
  go_wp2
  go_ret
  exact ⟨⟨_, _, rfl⟩, (Below.refl _ _).alloc (Nat.le_refl _) _⟩


theorem nilSeek (f : Nat) (a : Addr) (w : World) : (nilAhead (f + 1) 103 (.pointer (some a)) "Seek").run Tryz.prog w = .ok (some false) w := by kernel_rfl
theorem methodSeek (f : Nat) (a : Addr) (w : World) : (method (f + 1) 103 (.pointer (some a)) "Seek").run Tryz.prog w = .ok (34, .pointer (some a)) w := by kernel_rfl

theorem Rdr.drewN {w : World} {rd : Value} {M : Nat} {D : Nat → Prop} {l : List UInt8} {pos : Nat} (h : Rdr w rd M D l pos) (q : Nat) : Rdr (w.drewN q) rd M D l pos :=
  h.chg (S := fun _ => False) ⟨rfl, rfl, rfl, Nat.le_refl _, fun _ _ _ => rfl⟩ id (fun _ _ => id)
/-- A section that is the whole of a reader, as a value. -/
abbrev secV (M : Nat) : Value := .iface 103 (.pointer (some ⟨M, 0, none⟩))

set_option maxHeartbeats 1000000 in
theorem seekRow (M R pos off : Nat) (w : World) (ho : off ≤ 4294967296) (hM : Hid (w.heap[M]? = some (.cells (secRow R pos).toArray 147 (0, 0)))) :
    Calls Tryz.prog 34 #[.pointer (some ⟨M, 0, none⟩), .int .i64 off, .int .i64 0] w fun e w' => e = .returned (.tuple #[.int .i64 off, .nilIface]) ∧
      Hid (w'.heap[M]? = some (.cells (secRow R off).toArray 147 (0, 0))) ∧ Chg (· = M) w w' ∧ w'.heap.size = w.heap.size := by
  have c1 := World.cell?_of_row (l := secRow R pos) hM.out 1 _ rfl
  have c2 := World.cell?_of_row (l := secRow R pos) hM.out 2 _ rfl
  have f2 := frozen_of_row _ M 2 _ _ hM.out
  obtain ⟨w3, e3, M3, C3, hs3⟩ := stored 2 (.int .i64 (off : Int)) hM
  have h0 : ¬ (off : Int) < 0 := by omega
  clear hM
  go_enter Tryz.func34, Tryz.ntmps34
  go_wp2
  rw [← e3]
  go_ret2
  exact ⟨rfl, M3, C3.out, hs3.out⟩

theorem secSeek (M pos off : Nat) (D : Nat → Prop) (l : List UInt8) (w : World) (ho : off ≤ 4294967296) (hR : Hid (Rdr w (secV M) M D l pos)) :
    Calls Tryz.prog 34 #[.pointer (some ⟨M, 0, none⟩), .int .i64 off, .int .i64 0] w fun e w' => e = .returned (.tuple #[.int .i64 off, .nilIface]) ∧
      Hid (Rdr w' (secV M) M D l off) ∧ Chg (· = M) w w' ∧ w'.heap.size = w.heap.size := by
  have hd' := hR.out.d
  rcases hR.out.is with ⟨A, n, c, pv, e, _⟩ | ⟨R, A, n, c, i, pv, e, hn, hnc, hDR, hM, hRow, hA, hd⟩
  · simp at e
  · refine (seekRow M R pos off w ho (Lib.hid hM)).mono ?_
    rintro e w' ⟨rfl, h1, h3, h4⟩
    exact ⟨rfl, Lib.hid ⟨hR.out.len, ho, by rw [h4]; exact hR.out.lt, fun k hk => ⟨by rw [h4]; exact (hd' k hk).1, (hd' k hk).2⟩, .inr ⟨R, A, n, c, i, pv, rfl, hn, hnc, hDR, h1.out, h3.row hRow (hd' R hDR).2, hA.chg h3 (fun a ha => (hd' _ (hd a ha)).2), hd⟩⟩, h3, h4⟩

set_option maxHeartbeats 1000000 in
/-- The whole of a reader of bytes. -/
theorem newWhole (R : Nat) (w : World) :
    Calls Tryz.prog 32 #[.iface 85 (.pointer (some ⟨R, 0, none⟩)), .int .i64 0, .int .i64 9223372036854775807] w fun e w' => e = .returned (.pointer (some ⟨w.heap.size, 0, none⟩)) ∧ w.alloc (.cells (secRow R 0).toArray 147) = w' := by
  go_enter Tryz.func32, Tryz.ntmps32
  go_wp2
  go_ret
  exact ⟨rfl, rfl⟩

theorem made_flat (z : Array Value) (n : Nat) : (madeCells z (n * z.size)).toList = (List.replicate n z.toList).flatten := by
  induction n with
  | zero => simp [madeCells]
  | succ n ih =>
    have e : madeCells z ((n + 1) * z.size) = madeCells z (n * z.size) ++ z := by
      apply Array.ext
      · simp [size_madeCells, Nat.succ_mul]
      · intro i h1 h2
        rw [size_madeCells, Nat.succ_mul] at h1
        by_cases hi : i < n * z.size
        · rw [Array.getElem_append_left (by rw [size_madeCells]; exact hi)]
          simp [madeCells]
        · rw [Array.getElem_append_right (by rw [size_madeCells]; omega)]
          have hm : i % z.size = i - n * z.size := by
            obtain ⟨j, rfl⟩ : ∃ j, i = n * z.size + j := ⟨i - n * z.size, by omega⟩
            rw [Nat.mul_comm, Nat.mul_add_mod, Nat.mod_eq_of_lt (by rw [Nat.mul_comm] at h1; omega)]
            omega
          simp only [madeCells, Array.getElem_map, Array.getElem_range, hm, Array.size_map, Array.size_range]
          exact getElem!_pos z _ (by omega)
    rw [e, Array.toList_append, ih, List.replicate_succ', List.flatten_append]
    simp
end Go.Proofs.YtbpebngjpecncaaGreatDoor
