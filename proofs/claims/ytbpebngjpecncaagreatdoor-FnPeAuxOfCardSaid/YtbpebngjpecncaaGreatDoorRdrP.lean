/-
  A reader, whatever it is (of bytes in memory, or a section of one): what it has and how far it is.
-/
import Derived.Test.YtbpebngjpecncaaGreatDoorIoP
import Derived.Test.YtbpebngjpecncaaGreatDoorStep
import Derived.Test.YtbpebngjpecncaaGreatDoorGen
namespace Go.Proofs.YtbpebngjpecncaaGreatDoor
set_option linter.unusedVariables false
set_option linter.unusedSimpArgs false
set_option maxRecDepth 100000
open Go Go.RowKit
attribute [local go_sem ↓] Go.wp_at_zero Go.wp_at_succ

/-- A reader of bytes in memory: rd, its state in block M, its data in blocks of D, all its bytes, and how far it is. -/
def RdrB (w : World) (rd : Value) (M : Nat) (D : Nat → Prop) (l : List UInt8) (pos : Nat) : Prop :=
  ∃ A n c pv, rd = .iface 85 (.pointer (some ⟨M, 0, none⟩)) ∧ n = l.length ∧ n ≤ c ∧
    w.heap[M]? = some (.cells #[.slice A n c, .int .i64 (pos : Int), pv] 141 (0, 0)) ∧ RB w A l ∧ (∀ a, A = some a → D a.block)
/-- The greatest number of 64 bits. -/
def maxL : Int := 9223372036854775807
/-- A section that is the whole of a reader of bytes in memory. -/
def RdrS (w : World) (rd : Value) (M : Nat) (D : Nat → Prop) (l : List UInt8) (pos : Nat) : Prop :=
  ∃ R A n c i pv, rd = .iface 103 (.pointer (some ⟨M, 0, none⟩)) ∧ n = l.length ∧ n ≤ c ∧ D R ∧
    w.heap[M]? = some (.cells #[.iface 85 (.pointer (some ⟨R, 0, none⟩)), .int .i64 0, .int .i64 (pos : Int), .int .i64 maxL, .int .i64 maxL] 147 (0, 0)) ∧
    w.heap[R]? = some (.cells #[.slice A n c, i, pv] 141 (0, 0)) ∧ RB w A l ∧ (∀ a, A = some a → D a.block)

/-- A reader. -/
structure Rdr (w : World) (rd : Value) (M : Nat) (D : Nat → Prop) (l : List UInt8) (pos : Nat) : Prop where
  len : l.length ≤ 2147483647
  le : pos ≤ 4294967296
  lt : M < w.heap.size
  d : ∀ k, D k → k < w.heap.size ∧ k ≠ M
  is : RdrB w rd M D l pos ∨ RdrS w rd M D l pos

theorem Rdr.chg {S : Nat → Prop} {w w' : World} {rd : Value} {M : Nat} {D : Nat → Prop} {l : List UInt8} {pos : Nat} (h : Rdr w rd M D l pos) (hc : Chg S w w') (hM : ¬ S M) (hD : ∀ k, D k → ¬ S k) : Rdr w' rd M D l pos := by
  refine ⟨h.len, h.le, Nat.lt_of_lt_of_le h.lt hc.size, fun k hk => ⟨Nat.lt_of_lt_of_le (h.d k hk).1 hc.size, (h.d k hk).2⟩, ?_⟩
  rcases h.is with ⟨A, n, c, pv, e, hn, hnc, hR, hA, hd⟩ | ⟨R, A, n, c, i, pv, e, hn, hnc, hDR, hM', hR, hA, hd⟩
  · exact .inl ⟨A, n, c, pv, e, hn, hnc, hc.row hR hM, hA.chg hc (fun a ha => hD _ (hd a ha)), hd⟩
  · exact .inr ⟨R, A, n, c, i, pv, e, hn, hnc, hDR, hc.row hM' hM, hc.row hR (hD _ hDR), hA.chg hc (fun a ha => hD _ (hd a ha)), hd⟩
theorem Rdr.later {w w' : World} {rd : Value} {M : Nat} {D : Nat → Prop} {l : List UInt8} {pos : Nat} (h : Rdr w rd M D l pos) (hb : Below w.heap.size w w') : Rdr w' rd M D l pos :=
  h.chg (Chg.of_below (S := fun k => w.heap.size ≤ k) hb (fun _ _ h => h)) (Nat.not_le.2 h.lt) (fun k hk => Nat.not_le.2 (h.d k hk).1)
theorem Rdr.drew {w : World} {rd : Value} {M : Nat} {D : Nat → Prop} {l : List UInt8} {pos : Nat} (h : Rdr w rd M D l pos) : Rdr w.drew rd M D l pos :=
  h.chg (S := fun _ => False) ⟨rfl, rfl, rfl, Nat.le_refl _, fun _ _ _ => rfl⟩ id (fun _ _ => id)
theorem Chg.undrew {S : Nat → Prop} {a b : World} (h : Chg S a.drew b) : Chg S a b := ⟨h.os, h.tape, h.output, h.size, h.block⟩

/-- A new reader of bytes. -/
theorem Rdr.made {w : World} {A : Option Addr} {n c : Nat} {l : List UInt8} (hn : n = l.length) (hb : n ≤ 2147483647) (hnc : n ≤ c) (hA : RB w A l) (hA2 : ∀ a, A = some a → a.block < w.heap.size) :
    Rdr (w.alloc (.cells #[.slice A n c, .int .i64 0, .int .i64 (-1)] 141)) (.iface 85 (.pointer (some ⟨w.heap.size, 0, none⟩))) w.heap.size (fun k => ∃ a, A = some a ∧ a.block = k) l 0 :=
  ⟨by omega, by omega, by simp, fun k hk => by
    obtain ⟨a, ha, rfl⟩ := hk
    have := hA2 a ha
    simp
    omega, .inl ⟨A, n, c, _, rfl, hn, hnc, heap_alloc_new w _, hA.later ((Below.refl _ _).alloc (Nat.le_refl _) _), fun a ha => ⟨a, ha, rfl⟩⟩⟩
end Go.Proofs.YtbpebngjpecncaaGreatDoor
