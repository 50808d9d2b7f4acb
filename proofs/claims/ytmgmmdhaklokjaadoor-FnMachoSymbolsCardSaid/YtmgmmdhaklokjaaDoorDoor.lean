/-
  What the listed variables give the walks: the errors of package io; a start that meets the condition.
-/
import Derived.Test.YtmgmmdhaklokjaaDoorRows
import Derived.Test.YtmgmmdhaklokjaaDoorIo
import Derived.ProofKit
import Derived.LaidMore
import Derived.LaidLaws
import Derived.LaidEql
import Derived.MakeChecks
import Derived.OpenShut
import Derived.Stop.Joined
namespace Go.Proofs.YtmgmmdhaklokjaaDoor
set_option linter.unusedVariables false
set_option linter.unusedSimpArgs false
open Go Go.ChangeShapes Go.WideShapes Go.RowKit

theorem Door.g0 : Tryd.prog.globalNamed "io.ErrShortBuffer" = some 2 := by kernel_rfl
theorem Door.g1 : Tryd.prog.globalNamed "io.EOF" = some 1 := by kernel_rfl
theorem Door.g2 : Tryd.prog.globalNamed "io.ErrUnexpectedEOF" = some 0 := by kernel_rfl
theorem Door.t0 : (Tryd.prog.globals[2]?).map (·.type) = some 54 := by kernel_rfl
theorem Door.t1 : (Tryd.prog.globals[1]?).map (·.type) = some 54 := by kernel_rfl
theorem Door.t2 : (Tryd.prog.globals[0]?).map (·.type) = some 54 := by kernel_rfl
theorem Door.cellsE : Tryd.prog.cellsOf 172 = 1 := by kernel_rfl
theorem Door.cellsS : Tryd.prog.cellsOf 9 = 1 := by kernel_rfl
theorem Door.star : "*" ++ "errors.errorString" = "*errors.errorString" := by decide
theorem Door.row (u : TypeId) (h : Tryd.prog.typeName? 3 u = some "*errors.errorString") : u = 143 :=
  typeName_ptr_named (nm := "errors.errorString") (by rw [Door.star]; kernel_rfl) (by kernel_rfl) (by decide) u (by rw [Door.star]; exact h)
theorem Door.info : (Tryd.prog.info? 143).map (·.comparable) = some true := by kernel_rfl
theorem Door.infoE : (Tryd.prog.info? 172).isSome = true := by kernel_rfl

/-- The listed variables. -/
@[reducible] def laid3 : List (String × DataW Unit) := [("io.ErrShortBuffer", Rows.laid_io_ErrShortBuffer), ("io.EOF", Rows.laid_io_EOF), ("io.ErrUnexpectedEOF", Rows.laid_io_ErrUnexpectedEOF)]

theorem Door.met (os : Os) (args : Array Value) : laidMetH Tryd.prog laid3 ((World.doorLaid Tryd.prog 66 os).forCall (fun _ _ => 0) ⟨#[], args, []⟩).memory :=
  laidMetH_of_parts3 (fuel := 8) (laidMet_of_run' 8 (by kernel_rfl) (by kernel_rfl)) (by kernel_rfl) (by kernel_rfl)

set_option maxRecDepth 100000 in
theorem Door.of_laid {W : World} (h : laidMetH Tryd.prog laid3 W) : ∃ TE TU vE vU, ErrsAt W TE TU vE vU ∧ 3 ≤ W.heap.size := by
  rw [MakeChecks.laidMetH_plain _ _ _ (by kernel_rfl)] at h
  obtain ⟨ps, ⟨g0, t0, cs0, f0, p0, q0, hg0, ht0, hv0, hd0, ⟨g1, t1, cs1, f1, p1, q1, hg1, ht1, hv1, hd1, ⟨g2, t2, cs2, f2, p2, q2, hg2, ht2, hv2, hd2, hq2, e2⟩, e1⟩, e0⟩, hnd, hrows⟩ := h
  obtain rfl := Option.some.inj (Door.g0.symm.trans hg0)
  obtain rfl := Option.some.inj (Door.t0.symm.trans ht0)
  obtain rfl := Option.some.inj (Door.g1.symm.trans hg1)
  obtain rfl := Option.some.inj (Door.g2.symm.trans hg2)
  obtain rfl := Option.some.inj (Door.t1.symm.trans ht1)
  obtain rfl := Option.some.inj (Door.t2.symm.trans ht2)
  have hq2' : q2 = [] := hq2
  subst hq2'
  subst e2
  subst e1
  subst e0
  obtain ⟨l0⟩ := cs0
  obtain ⟨l1⟩ := cs1
  obtain ⟨l2⟩ := cs2
  have ok0 : ∀ u v, l0 = [.iface u v] → Value.okWide Tryd.prog W .any 0 u v := fun u v e => by
    subst e
    exact (hrows 2 0 (by simp [MemPlace.row])).2 u v (by simpa using World.var?_cell hg0 hv0 0)
  have ok1 : ∀ u v, l1 = [.iface u v] → Value.okWide Tryd.prog W .any 0 u v := fun u v e => by
    subst e
    exact (hrows 1 0 (by simp [MemPlace.row])).2 u v (by simpa using World.var?_cell hg1 hv1 0)
  have ok2 : ∀ u v, l2 = [.iface u v] → Value.okWide Tryd.prog W .any 0 u v := fun u v e => by
    subst e
    exact (hrows 0 0 (by simp [MemPlace.row])).2 u v (by simpa using World.var?_cell hg2 hv2 0)
  obtain ⟨a0, s0, rfl, -, -, -, rfl⟩ := errorString_of_trod Tryd.underlying54 Door.row Tryd.underlying143 Tryd.underlying172 rfl rfl Tryd.underlying9 Door.cellsE Door.cellsS hd0 ok0
  obtain ⟨a1, s1, rfl, -, -, -, rfl⟩ := errorString_of_trod Tryd.underlying54 Door.row Tryd.underlying143 Tryd.underlying172 rfl rfl Tryd.underlying9 Door.cellsE Door.cellsS hd1 ok1
  obtain ⟨a2, s2, rfl, -, -, -, rfl⟩ := errorString_of_trod Tryd.underlying54 Door.row Tryd.underlying143 Tryd.underlying172 rfl rfl Tryd.underlying9 Door.cellsE Door.cellsS hd2 ok2
  have c0 : W.cell? ⟨2, 0, none⟩ = some (.iface 143 (.pointer (some a0))) := by simpa using World.var?_cell hg0 hv0 0
  have c1 : W.cell? ⟨1, 0, none⟩ = some (.iface 143 (.pointer (some a1))) := by simpa using World.var?_cell hg1 hv1 0
  have c2 : W.cell? ⟨0, 0, none⟩ = some (.iface 143 (.pointer (some a2))) := by simpa using World.var?_cell hg2 hv2 0
  obtain ⟨i, hi, hci⟩ : ∃ i, Tryd.prog.info? 143 = some i ∧ i.comparable = true := by
    have := Door.info
    cases hq : Tryd.prog.info? 143 with
    | none => rw [hq] at this; simp at this
    | some i => rw [hq] at this; exact ⟨i, rfl, by simpa using this⟩
  obtain ⟨j, hj⟩ := Option.isSome_iff_exists.1 Door.infoE
  have hlt0 : 2 < W.heap.size := World.block_lt_of_cell? W _ c0
  have hlt1 : 1 < W.heap.size := World.block_lt_of_cell? W _ c1
  have hlt2 : 0 < W.heap.size := World.block_lt_of_cell? W _ c2
  exact ⟨_, _, _, _, ⟨c1, c2, fun w => run_eql_iface_ptr_same w a1 Tryd.underlying54 Tryd.underlying143 hi hci hj⟩, by omega⟩
end Go.Proofs.YtmgmmdhaklokjaaDoor
