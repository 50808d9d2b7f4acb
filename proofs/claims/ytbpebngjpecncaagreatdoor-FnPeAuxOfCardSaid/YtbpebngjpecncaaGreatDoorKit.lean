/-
  Plain words and laws of this seat's texts: bytes as a list, numbers out of bytes, what a call may have changed. No program in sight.
-/
import Derived.WalkKit
import Derived.WalkSpells
import Derived.WalkLawsBesides
import Derived.Lib.Hide
import Derived.Lib.Endian
import Derived.Lib.EndianMore
import Derived.Lib.EndianBits
import Derived.Deep.QuietTactic
import Derived.BigQuiet
import Derived.Deep.Draws
import Derived.Deep.RegionHeld3
import Derived.Deep.DrawnRows
namespace Go.Proofs.YtbpebngjpecncaaGreatDoor
set_option linter.unusedVariables false
set_option linter.unusedSimpArgs false
set_option maxRecDepth 100000
open Go Go.RowKit

/-- A byte as a cell holds it. -/
def bv (x : UInt8) : Value := .int .u8 (x.toNat : Int)

/-- The slice at A reads, in its first cells, as these bytes. -/
def RB (w : World) (A : Option Addr) (l : List UInt8) : Prop :=
  l = [] ∨ ∃ b o, A = some ⟨b, o, none⟩ ∧ ∀ i (h : i < l.length), w.cell? ⟨b, o + i, none⟩ = some (.int .u8 ((l[i]).toNat : Int))

theorem RB.nil (w : World) (A : Option Addr) : RB w A [] := .inl rfl

theorem RB.at {w : World} {b o : Nat} {l : List UInt8} (h : RB w (some ⟨b, o, none⟩) l) {i : Nat} (hi : i < l.length) : w.cell? ⟨b, o + i, none⟩ = some (.int .u8 ((l[i]).toNat : Int)) := by
  rcases h with rfl | ⟨b', o', e, hc⟩
  · simp at hi
  · simp only [Option.some.injEq, Addr.mk.injEq, and_true] at e
    obtain ⟨rfl, rfl⟩ := e
    exact hc i hi

theorem RB.addr {w : World} {A : Option Addr} {l : List UInt8} (h : RB w A l) (h0 : 0 < l.length) : ∃ b o, A = some ⟨b, o, none⟩ := by
  rcases h with rfl | ⟨b', o', e, hc⟩
  · simp at h0
  · exact ⟨b', o', e⟩

/-- What a call may have changed of what was there: the blocks in S alone. -/
structure Chg (S : Nat → Prop) (w w' : World) : Prop where
  os : w'.os = w.os
  tape : w'.tape = w.tape
  output : w'.output = w.output
  size : w.heap.size ≤ w'.heap.size
  block : ∀ k, k < w.heap.size → ¬ S k → w'.heap[k]? = w.heap[k]?

theorem Chg.refl (S : Nat → Prop) (w : World) : Chg S w w := ⟨rfl, rfl, rfl, Nat.le_refl _, fun _ _ _ => rfl⟩
theorem Chg.trans {S : Nat → Prop} {a b c : World} (h : Chg S a b) (k : Chg (fun x => S x ∨ a.heap.size ≤ x) b c) : Chg S a c :=
  ⟨k.os.trans h.os, k.tape.trans h.tape, k.output.trans h.output, Nat.le_trans h.size k.size, fun i hi hs =>
    (k.block i (Nat.lt_of_lt_of_le hi h.size) (fun e => e.elim hs (fun e => absurd hi (Nat.not_lt.2 e)))).trans (h.block i hi hs)⟩
theorem Chg.mono {S T : Nat → Prop} {a b : World} (h : Chg S a b) (hs : ∀ k, k < a.heap.size → S k → T k) : Chg T a b :=
  ⟨h.os, h.tape, h.output, h.size, fun k hk ht => h.block k hk (fun e => ht (hs k hk e))⟩
theorem Chg.below {S : Nat → Prop} {B : Nat} {a b : World} (h : Chg S a b) (hB : B ≤ a.heap.size) (hs : ∀ k, k < B → ¬ S k) : Below B a b :=
  ⟨h.os, h.tape, h.output, h.size, fun k hk => h.block k (Nat.lt_of_lt_of_le hk hB) (hs k hk)⟩
theorem Chg.of_below {S : Nat → Prop} {B : Nat} {a b : World} (h : Below B a b) (hs : ∀ k, k < a.heap.size → B ≤ k → S k) : Chg S a b :=
  ⟨h.os, h.tape, h.output, h.size, fun k hk hn => h.block k (Nat.lt_of_not_le (fun e => hn (hs k hk e)))⟩
theorem Chg.drew {S : Nat → Prop} {a w : World} (h : Chg S a w) : Chg S a w.drew := ⟨h.os, h.tape, h.output, h.size, h.block⟩
theorem Chg.drewN {S : Nat → Prop} {a w : World} (h : Chg S a w) (n : Nat) : Chg S a (w.drewN n) := ⟨h.os, h.tape, h.output, h.size, h.block⟩
theorem Chg.alloc {S : Nat → Prop} {a w : World} (h : Chg S a w) (o : Obj) : Chg S a (w.alloc o) :=
  ⟨h.os, h.tape, h.output, Nat.le_trans h.size (by simp), fun k hk hs => (Below.heap_alloc w o k (Nat.lt_of_lt_of_le hk h.size)).trans (h.block k hk hs)⟩
theorem Chg.setCell {S : Nat → Prop} {a w : World} (h : Chg S a w) (p : Addr) (u : Value) (hp : S p.block ∨ a.heap.size ≤ p.block) : Chg S a (w.setCell p u) :=
  ⟨h.os, h.tape, h.output, by simpa [World.setCell] using h.size, fun k hk hs => (Below.heap_setCell w p u k (fun e => by
    subst e
    exact hp.elim hs (fun e => absurd hk (Nat.not_lt.2 e)))).trans (h.block k hk hs)⟩
theorem Chg.cell {S : Nat → Prop} {w w' : World} (h : Chg S w w') {p : Addr} (hp : p.block < w.heap.size) (hs : ¬ S p.block) : w'.cell? p = w.cell? p := World.cell?_of_block (w := w) (h.block p.block hp hs)
theorem Chg.frozen {S : Nat → Prop} {w w' : World} (h : Chg S w w') {p : Addr} (hp : p.block < w.heap.size) (hs : ¬ S p.block) : w'.frozen? p = w.frozen? p := World.frozen?_of_block (w := w) (h.block p.block hp hs)

theorem below_drewN {B : Nat} {a w : World} (h : Below B a w) (n : Nat) : Below B a (w.drewN n) := ⟨h.os, h.tape, h.output, h.size, h.block⟩

theorem RB.keep {w w' : World} {A : Option Addr} {l : List UInt8} (h : RB w A l) (hc : ∀ a, A = some a → ∀ i, w'.cell? ⟨a.block, i, none⟩ = w.cell? ⟨a.block, i, none⟩) : RB w' A l := by
  rcases h with rfl | ⟨b, o, rfl, h⟩
  · exact .inl rfl
  · exact .inr ⟨b, o, rfl, fun i hi => (hc _ rfl (o + i)).trans (h i hi)⟩

theorem RB.lt {w : World} {b o : Nat} {l : List UInt8} (h : RB w (some ⟨b, o, none⟩) l) (h0 : 0 < l.length) : b < w.heap.size :=
  World.block_lt_of_cell? w _ (h.at h0)

theorem RB.drewN {w : World} {A : Option Addr} {l : List UInt8} (h : RB w A l) (n : Nat) : RB (w.drewN n) A l := h.keep fun _ _ _ => by simp

/-- A number out of bytes: by the order of the bytes. -/
def num (big : Bool) (l : List UInt8) : Nat := if big then Lib.beNat l else Lib.leNat l

theorem leNat_lt : ∀ l : List UInt8, Lib.leNat l < 256 ^ l.length
  | [] => by simp [Lib.leNat]
  | x :: r => by
    have h := leNat_lt r
    have hx := x.toNat_lt
    simp only [Lib.leNat, List.length_cons, Nat.pow_succ]
    omega
theorem num_lt (big : Bool) (l : List UInt8) : num big l < 256 ^ l.length := by
  unfold num
  split
  · rw [Lib.beNat_eq]; simpa using leNat_lt l.reverse
  · exact leNat_lt l
theorem num_append (big : Bool) (a b : List UInt8) : num big (a ++ b) = if big then num big a * 256 ^ b.length + num big b else num big a + 256 ^ a.length * num big b := by
  unfold num
  cases big
  · simp [Lib.leNat_append]
  · simp only [if_true, Lib.beNat_eq, List.reverse_append, Lib.leNat_append, List.length_reverse]
    rw [Nat.mul_comm, Nat.add_comm]

/-- The walk stands still at such a goal. -/
def Stop (p : Prop) : Prop := p
theorem Stop.mk {p : Prop} (h : Stop p) : p := h
theorem Stop.go {p : Prop} (h : p) : Stop p := h

theorem RB.chg {S : Nat → Prop} {w w' : World} {A : Option Addr} {l : List UInt8} (h : RB w A l) (hc : Chg S w w') (hs : ∀ a, A = some a → ¬ S a.block) : RB w' A l := by
  rcases h with rfl | ⟨b, o, rfl, h⟩
  · exact .inl rfl
  · exact .inr ⟨b, o, rfl, fun i hi => (hc.cell (p := ⟨b, o + i, none⟩) (World.block_lt_of_cell? w _ (h i hi)) (hs ⟨b, o, none⟩ rfl)).trans (h i hi)⟩
theorem Chg.row {S : Nat → Prop} {w w' : World} (hc : Chg S w w') {g : Nat} {x : Obj} (hg : w.heap[g]? = some x) (hs : ¬ S g) : w'.heap[g]? = some x :=
  (hc.block g (Array.getElem?_eq_some_iff.1 hg).1 hs).trans hg
end Go.Proofs.YtbpebngjpecncaaGreatDoor
