/-
  What the listed variables give the walk of FnPeSectionName; a start that meets the condition.
-/
import Derived.Test.YtjgphiogjmkniaaDoorRows
import Derived.Test.YtjgphiogjmkniaaDoorSecLaw
import Derived.ProofKit
import Derived.LaidMore
import Derived.LaidLaws
import Derived.LaidEql
import Derived.MakeChecks
import Derived.OpenShut
import Derived.Stop.Joined
namespace Go.Proofs.YtjgphiogjmkniaaDoor
set_option linter.unusedVariables false
set_option linter.unusedSimpArgs false
open Go Go.ChangeShapes Go.WideShapes Go.RowKit

theorem Door.g4 : Tryd.prog.globalNamed "strconv.ErrSyntax" = some 1 := by kernel_rfl
theorem Door.t4 : (Tryd.prog.globals[1]?).map (·.type) = some 36 := by kernel_rfl
theorem Door.cellsE : Tryd.prog.cellsOf 57 = 1 := by kernel_rfl
theorem Door.cellsS : Tryd.prog.cellsOf 9 = 1 := by kernel_rfl
theorem Door.star : "*" ++ "errors.errorString" = "*errors.errorString" := by decide
theorem Door.row (u : TypeId) (h : Tryd.prog.typeName? 3 u = some "*errors.errorString") : u = 55 :=
  typeName_ptr_named (nm := "errors.errorString") (by rw [Door.star]; kernel_rfl) (by kernel_rfl) (by decide) u (by rw [Door.star]; exact h)

/-- The listed variables. -/
@[reducible] def laid3 : List (String × DataW Unit) := [("math/bits.deBruijn32tab", Rows.laid_math_bits_deBruijn32tab), ("math/bits.deBruijn64tab", Rows.laid_math_bits_deBruijn64tab), ("internal/strconv.uint64pow10", Rows.laid_internal_strconv_uint64pow10), ("strconv.ErrRange", Rows.laid_strconv_ErrRange), ("strconv.ErrSyntax", Rows.laid_strconv_ErrSyntax)]

theorem Door.met (os : Os) (args : Array Value) : laidMetH Tryd.prog laid3 ((World.doorLaid Tryd.prog 66 os).forCall (fun _ _ => 0) ⟨#[], args, []⟩).memory :=
  laidMetH_of_parts3 (fuel := 8) (laidMet_of_run' 8 (by kernel_rfl) (by kernel_rfl)) (by kernel_rfl) (by kernel_rfl)

set_option maxRecDepth 100000 in
theorem Door.of_laid {W : World} (h : laidMetH Tryd.prog laid3 W) : ErrH W := by
  rw [MakeChecks.laidMetH_plain _ _ _ (by kernel_rfl)] at h
  obtain ⟨ps, ⟨g0, t0, cs0, f0, p0, q0, -, -, -, -, ⟨g1, t1, cs1, f1, p1, q1, -, -, -, -, ⟨g2, t2, cs2, f2, p2, q2, -, -, -, -, ⟨g3, t3, cs3, f3, p3, q3, -, -, -, -, ⟨g4, t4, cs4, f4, p4, q4, hg4, ht4, hv4, hd4, hq4, e4⟩, e3⟩, e2⟩, e1⟩, e0⟩, hnd, hrows⟩ := h
  obtain rfl := Option.some.inj (Door.g4.symm.trans hg4)
  obtain rfl := Option.some.inj (Door.t4.symm.trans ht4)
  subst e4
  subst e3
  subst e2
  subst e1
  subst e0
  obtain ⟨l4⟩ := cs4
  have ok4 : ∀ u v, l4 = [.iface u v] → Value.okWide Tryd.prog W .any 0 u v := fun u v e => by
    subst e
    exact (hrows 1 0 (by simp [MemPlace.row])).2 u v (by simpa using World.var?_cell hg4 hv4 0)
  obtain ⟨a4, s4, rfl, -, -, -, rfl⟩ := errorString_of_trod Tryd.underlying36 Door.row Tryd.underlying55 Tryd.underlying57 rfl rfl Tryd.underlying9 Door.cellsE Door.cellsS hd4 ok4
  have c4 : W.cell? ⟨1, 0, none⟩ = some (.iface 55 (.pointer (some a4))) := by simpa using World.var?_cell hg4 hv4 0
  exact ⟨_, _, c4⟩
end Go.Proofs.YtjgphiogjmkniaaDoor
