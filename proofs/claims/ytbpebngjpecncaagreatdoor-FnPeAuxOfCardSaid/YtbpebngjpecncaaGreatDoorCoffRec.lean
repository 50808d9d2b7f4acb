/-
  A record of a table of symbols, as plain data and in memory. No program in sight.
-/
import Derived.Test.YtbpebngjpecncaaGreatDoorStep
namespace Go.Proofs.YtbpebngjpecncaaGreatDoor
set_option linter.unusedVariables false
set_option linter.unusedSimpArgs false
set_option maxRecDepth 100000
open Go Go.RowKit

/-- A record. -/
structure CoffL where
  name : List UInt8
  value : Int
  sect : Int
  typ : Int
  cls : Int
  aux : Int

/-- Its cells as a COFFSymbol; its cells behind the name. -/
def symTail (c : CoffL) : List Value := [.int .u32 c.value, .int .i16 c.sect, .int .u16 c.typ, .int .u8 c.cls, .int .u8 c.aux]
def symCells (c : CoffL) : List Value := c.name.map bv ++ symTail c
/-- Its cells as a Coff. -/
def IsCoff (w : World) (vs : List Value) (c : CoffL) : Prop := ∃ A k, vs = .slice A 8 k :: symTail c ∧ c.name.length = 8 ∧ RT w 5 A 1 8 (c.name.map bv)
theorem IsCoff.later {w w' : World} {vs : List Value} {c : CoffL} (h : IsCoff w vs c) (hb : Below w.heap.size w w') : IsCoff w' vs c := by
  obtain ⟨A, k, e, hl, hr⟩ := h
  exact ⟨A, k, e, hl, hr.later hb⟩
theorem IsCoff.keeps {e : TypeId} {w w' : World} {vs : List Value} {c : CoffL} (h : IsCoff w vs c) (hk : Keeps e w w') (he : 5 ≠ e) : IsCoff w' vs c := by
  obtain ⟨A, k, e1, hl, hr⟩ := h
  exact ⟨A, k, e1, hl, hr.keeps hk he⟩
/-- The same, and the slice of the name has the room that it should have. -/
def IsCoffK (w : World) (vs : List Value) (c : CoffL) : Prop := ∃ A k, vs = .slice A 8 k :: symTail c ∧ 8 ≤ k ∧ c.name.length = 8 ∧ RT w 5 A 1 8 (c.name.map bv)
theorem IsCoffK.later {w w' : World} {vs : List Value} {c : CoffL} (h : IsCoffK w vs c) (hb : Below w.heap.size w w') : IsCoffK w' vs c := by
  obtain ⟨A, k, e, h8, hl, hr⟩ := h
  exact ⟨A, k, e, h8, hl, hr.later hb⟩
theorem IsCoffK.keeps {e : TypeId} {w w' : World} {vs : List Value} {c : CoffL} (h : IsCoffK w vs c) (hk : Keeps e w w') (he : 5 ≠ e) : IsCoffK w' vs c := by
  obtain ⟨A, k, e1, h8, hl, hr⟩ := h
  exact ⟨A, k, e1, h8, hl, hr.keeps hk he⟩
/-- Its cells, the name among bytes that were there before. -/
def IsCoffIn (w0 : World) (vs : List Value) (c : CoffL) : Prop := ∃ A k, vs = .slice A 8 k :: symTail c ∧ 8 ≤ k ∧ c.name.length = 8 ∧ RB w0 A c.name

/-- A record out of its bytes. -/
def coffL (s : List UInt8) : CoffL := ⟨s.take 8, (num false ((s.drop 8).take 4) : Nat), IntKind.i16.wrap (num false ((s.drop 12).take 2) : Nat), (num false ((s.drop 14).take 2) : Nat), (num false ((s.drop 16).take 1) : Nat), (num false ((s.drop 17).take 1) : Nat)⟩
theorem coffL_take (l : List UInt8) : coffL (l.take 18) = coffL l := by
  simp [coffL, List.drop_take, List.take_take]
theorem coffL_eight {m : List UInt8} (h : 8 ≤ m.length) : (coffL m).name.length = 8 := by simp [coffL]; omega
theorem coffL_aux (s : List UInt8) : ∃ a : Nat, (coffL s).aux = (a : Int) ∧ a < 256 := by
  refine ⟨_, rfl, ?_⟩
  have h := num_lt false ((s.drop 17).take 1)
  have h2 : 256 ^ ((s.drop 17).take 1).length ≤ 256 ^ 1 := Nat.pow_le_pow_right (by omega) (by simp; omega)
  omega
end Go.Proofs.YtbpebngjpecncaaGreatDoor
