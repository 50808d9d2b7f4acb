/-
  Numbers of four bytes, one behind the other.
-/
import Derived.Test.YtbpebngjpecncaaGreatDoorFields
import Derived.Deep.WholeRow
namespace Go.Proofs.YtbpebngjpecncaaGreatDoor
set_option linter.unusedVariables false
set_option linter.unusedSimpArgs false
set_option maxRecDepth 100000
open Go Go.RowKit

theorem fieldsOf_fours (big : Bool) : ∀ (K : Nat) (l : List UInt8), fieldsOf big (List.replicate K 4) l = if l.length < 4 * K then none else some ((List.range K).map fun i => num big ((l.drop (4 * i)).take 4))
  | 0, l => by simp [fieldsOf]
  | K + 1, l => by
    have ih := fieldsOf_fours big K (l.drop 4)
    rw [List.replicate_succ]
    have e4 : (4 : Int).natAbs = 4 := rfl
    have e5 : (0 : Int) < 4 := by decide
    simp only [fieldsOf, e4, if_pos e5]
    rw [ih]
    by_cases h : l.length < 4
    · rw [if_pos h, if_pos (by omega)]
    · rw [if_neg h]
      by_cases h2 : l.length < 4 * (K + 1)
      · rw [if_pos (by simp; omega), if_pos h2]; rfl
      · rw [if_neg (by simp; omega), if_neg h2]
        simp [List.range_succ_eq_map, Function.comp_def, List.drop_drop, Nat.mul_add, Nat.add_comm]

theorem wrap_num4 (big : Bool) (s : List UInt8) : IntKind.u64.wrap ((num big (s.take 4) : Nat) : Int) = ((num big (s.take 4) : Nat) : Int) := by
  have h := num_lt big (s.take 4)
  have h2 : 256 ^ (s.take 4).length ≤ 256 ^ 4 := Nat.pow_le_pow_right (by omega) (by simp; omega)
  have h3 : (256 : Nat) ^ 4 = 4294967296 := by decide
  exact IntWalk.u64_in _ (by omega)

theorem World.cell?_of_row {w : World} {g : Nat} {l : List Value} {T : TypeId} {fr : Nat × Nat} (h : w.heap[g]? = some (.cells l.toArray T fr)) (i : Nat) (v : Value) (hv : l[i]? = some v) : w.cell? ⟨g, i, none⟩ = some v := by
  simp [World.cell?, h, hv]

theorem RB.ltA {w : World} {A : Option Addr} {l : List UInt8} (h : RB w A l) (h0 : 0 < l.length) (a : Addr) (ha : A = some a) : a.block < w.heap.size := by
  obtain ⟨b, o, e⟩ := h.addr h0
  subst e
  obtain rfl : (⟨b, o, none⟩ : Addr) = a := by simpa using ha
  exact h.lt h0
theorem owned_lt {w : World} {base : Nat} {e : TypeId} {v : Value} {n : Nat} {vs : List Value} (h : w.ownsRow base e 1 v n vs) {a : Addr} {m c : Nat} (hv : v = .slice (some a) m c) : a.block < w.heap.size := (h.lt a.block (by rw [hv]; rfl)).2
theorem rc_new {w : World} {vs : List Value} {T : TypeId} {k n : Nat} (hk : k = w.heap.size) (hn : n = vs.length) : RC (w.alloc (.cells vs.toArray T)) (some ⟨k, 0, none⟩) 1 n vs := by
  subst hk
  subst hn
  refine ⟨by simp, fun _ => ⟨_, rfl, fun j u hu => ?_⟩⟩
  rw [add_off, Nat.zero_add]
  exact World.cell?_of_row (heap_alloc_new w (.cells vs.toArray T)) j u hu

end Go.Proofs.YtbpebngjpecncaaGreatDoor
