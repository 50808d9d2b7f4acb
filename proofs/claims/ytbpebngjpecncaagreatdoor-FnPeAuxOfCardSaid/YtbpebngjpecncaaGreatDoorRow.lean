/-
  Laws on whole structs in memory: a whole row stored, a struct and an error handed back. No program in sight.
-/
import Derived.Test.YtbpebngjpecncaaGreatDoorMem
namespace Go.Proofs.YtbpebngjpecncaaGreatDoor
set_option linter.unusedVariables false
set_option linter.unusedSimpArgs false
set_option maxRecDepth 100000
open Go Go.RowKit
section
variable {P : Program}

theorem run_storeAt_row (w : World) (g : Nat) (ty t : TypeId) (cur cells : Array Value) (hg : w.heap[g]? = some (.cells cur t (0, 0))) (hs : cells.size = cur.size) (hi : (P.info? ty).map (·.size) = some cells.size) (h1 : ∀ v ∈ cells.toList, v.oneCell' = true) :
    (Instr.storeAt ty (.pointer (some ⟨g, 0, none⟩)) (.agg cells)).run P w = .ok () (w.setRow g cells) := by
  cases hq : P.info? ty with
  | none => simp [hq] at hi
  | some i =>
    have hs' : i.size = cells.size := by simpa [hq] using hi
    have hst := run_storeCells_at P g 0 t cells.toList 0 cur w hg (by simp; omega) h1
    simp only [Nat.zero_add, List.take_zero, List.nil_append] at hst
    rw [List.drop_of_length_le (by simp; omega), List.append_nil, Array.toArray_toList] at hst
    simp [Instr.storeAt, Instr.sureAddr, storeVar, sizeOf, typeInfo, hq, hs', Value.cells, hst]

theorem wpList_store_row {ops : Array Oper} {rest : List Oper} {op : Oper} {a : Act} {w : World} {Q : Exit → Act → World → Prop} (hgd : op.guard = none) (ty : TypeId) (x y : Operand) (ho : op.op = .store ty x y)
    (g : Nat) (t : TypeId) (cur cells : Array Value) (hx : a.eval x = .pointer (some ⟨g, 0, none⟩)) (hy : a.eval y = .agg cells) (hg : w.heap[g]? = some (.cells cur t (0, 0))) (hs : cells.size = cur.size)
    (hi : (P.info? ty).map (·.size) = some cells.size) (h1 : ∀ v ∈ cells.toList, v.oneCell' = true)
    (h : wpList P ops Q rest (a.put op.dst undef) (w.setRow g cells)) : wpList P ops Q (op :: rest) a w :=
  wpList_plain hgd fun _ hK => by
    have hrun := run_storeAt_row (P := P) w g ty t cur cells hg hs hi h1
    unfold Oper.wp execOp
    simp only [ho, hx, hy, Sem.run_bind, hrun, Result.andThen_ok, Sem.run_pure]
    exact hK _ _ h

/-- A row is stored into itself. -/
theorem wpList_store_self {ops : Array Oper} {rest : List Oper} {op : Oper} {a : Act} {w : World} {Q : Exit → Act → World → Prop} (hgd : op.guard = none) (ty : TypeId) (x y : Operand) (ho : op.op = .store ty x y)
    (g : Nat) (t : TypeId) (cells : Array Value) (hx : a.eval x = .pointer (some ⟨g, 0, none⟩)) (hy : a.eval y = .agg cells) (hg : w.heap[g]? = some (.cells cells t (0, 0)))
    (hi : (P.info? ty).map (·.size) = some cells.size) (h1 : ∀ v ∈ cells.toList, v.oneCell' = true)
    (h : wpList P ops Q rest (a.put op.dst undef) w) : wpList P ops Q (op :: rest) a w :=
  wpList_store_row hgd ty x y ho g t cells cells hx hy hg rfl hi h1 (by rw [setRow_self w g cells t (0, 0) hg]; exact h)

theorem results_cell_tmp {fn : Func} {p t : Tmp} {ty : TypeId} (h : fn.results = #[.cell p ty, .tmp t]) (tmps : Array Value) (w : World) (g : Nat) (T : TypeId) (cs : Array Value) (fr : Nat × Nat) (d : TypeDesc)
    (hp : tmps.getD p undef = .pointer (some ⟨g, 0, none⟩)) (hg : w.heap[g]? = some (.cells cs T fr))
    (hu : P.underlying ty = some d) (hd : (match d with | .struct _ | .array _ _ => true | _ => false) = true) (hi : (P.info? ty).map (·.size) = some cs.size) :
    (results fn tmps).run P w = .ok (.tuple #[.agg cs, tmps.getD t undef]) w := by
  have hp' : tmps[p]?.getD undef = .pointer (some ⟨g, 0, none⟩) := by simpa using hp
  simp [results, h, hp', asAddr, run_loadVar_row w g T ty cs fr d hg hu hd hi]
end
end Go.Proofs.YtbpebngjpecncaaGreatDoor
