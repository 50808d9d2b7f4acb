/-
  The reference's numbers in closed form, whatever the widths.
-/
import Derived.Test.YtbpebngjpecncaaGreatDoorFours
namespace Go.Proofs.YtbpebngjpecncaaGreatDoor
set_option linter.unusedVariables false
set_option linter.unusedSimpArgs false
set_option maxRecDepth 100000
open Go Go.RowKit

/-- How many bytes the fields have; the numbers. -/
def widthOf : List Int → Nat
  | [] => 0
  | w :: ws => w.natAbs + widthOf ws
def numsOf (big : Bool) : List Int → List UInt8 → List Nat
  | [], _ => []
  | w :: ws, l => if 0 < w then num big (l.take w.natAbs) :: numsOf big ws (l.drop w.natAbs) else numsOf big ws (l.drop w.natAbs)
theorem fieldsOf_all (big : Bool) : ∀ (ws : List Int) (l : List UInt8), fieldsOf big ws l = if l.length < widthOf ws then none else some (numsOf big ws l)
  | [], l => by simp [fieldsOf, widthOf, numsOf]
  | w :: ws, l => by
    have ih := fieldsOf_all big ws (l.drop w.natAbs)
    show (if l.length < w.natAbs then none else (fieldsOf big ws (l.drop w.natAbs)).map fun r => if 0 < w then num big (l.take w.natAbs) :: r else r) =
      if l.length < w.natAbs + widthOf ws then none else some (if 0 < w then num big (l.take w.natAbs) :: numsOf big ws (l.drop w.natAbs) else numsOf big ws (l.drop w.natAbs))
    rw [ih]
    by_cases h : l.length < w.natAbs
    · rw [if_pos h, if_pos (by omega)]
    · rw [if_neg h]
      by_cases h2 : l.length < w.natAbs + widthOf ws
      · rw [if_pos (by simp; omega), if_pos h2]; rfl
      · rw [if_neg (by simp; omega), if_neg h2]
        by_cases h3 : 0 < w
        · simp [h3]
        · simp [h3]

theorem wrap_num (big : Bool) (s : List UInt8) (k : Nat) (hk : k ≤ 8) : IntKind.u64.wrap ((num big (s.take k) : Nat) : Int) = ((num big (s.take k) : Nat) : Int) := by
  have h := num_lt big (s.take k)
  have h2 : 256 ^ (s.take k).length ≤ 256 ^ 8 := Nat.pow_le_pow_right (by omega) (by simp; omega)
  have h3 : (256 : Nat) ^ 8 = 18446744073709551616 := by decide
  exact IntWalk.u64_in _ (by omega)

theorem Below.undrew {a b : World} (h : Below a.drew.heap.size a.drew b) : Below a.heap.size a b := ⟨h.os, h.tape, h.output, h.size, h.block⟩
theorem row_later {a b : World} {V : Nat} {x : Obj} (hb : Below a.heap.size a b) (h : Hid (a.heap[V]? = some x)) : Hid (b.heap[V]? = some x) := Lib.hid ((hb.block V (Array.getElem?_eq_some_iff.1 h.out).1).trans h.out)
theorem row_alloc {a : World} {V : Nat} {x : Obj} (h : Hid (a.heap[V]? = some x)) (o : Obj) : Hid ((a.alloc o).heap[V]? = some x) := row_later ((Below.refl _ a).alloc (Nat.le_refl _) o) h
theorem results_tmp4 {P : Program} {fn : Func} {t u v x : Tmp} (h : fn.results = #[.tmp t, .tmp u, .tmp v, .tmp x]) (tmps : Array Value) (w : World) :
    (results fn tmps).run P w = .ok (.tuple #[tmps.getD t undef, tmps.getD u undef, tmps.getD v undef, tmps.getD x undef]) w := by simp [results, h]

theorem rc_none (w : World) : RC w none 1 0 (([] : List Nat).map uv) := ⟨rfl, fun h => absurd h (Nat.lt_irrefl 0)⟩

set_option maxHeartbeats 400000 in
theorem addr_any (wide : Bool) (w : World) : Calls Tryz.prog 26 #[.bool wide] w fun e w' => e = .returned (.int .i64 (if wide then 8 else 4)) ∧ w = w' := by
  cases wide <;> (go_enter Tryz.func26, Tryz.ntmps26; go_wp2; go_ret; exact ⟨rfl, rfl⟩)

end Go.Proofs.YtbpebngjpecncaaGreatDoor
