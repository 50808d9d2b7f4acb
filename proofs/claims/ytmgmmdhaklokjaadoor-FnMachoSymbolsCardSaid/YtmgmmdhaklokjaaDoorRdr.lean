/-
  A reader, whatever it is: what it has and how far it is; reading full from it.
-/
import Derived.Test.YtmgmmdhaklokjaaDoorIo
namespace Go.Proofs.YtmgmmdhaklokjaaDoor
set_option linter.unusedVariables false
set_option linter.unusedSimpArgs false
open Go Go.RowKit

/-- A reader of bytes in memory: rd, its state in block M, its data in blocks of D, all its bytes, and how far it is. -/
def RdrB (w : World) (rd : Value) (M : Nat) (D : Nat → Prop) (l : List UInt8) (pos : Nat) : Prop :=
  ∃ A n c pv, rd = .iface 105 (.pointer (some ⟨M, 0, none⟩)) ∧ n = l.length ∧ n ≤ c ∧
    w.heap[M]? = some (.cells #[.slice A n c, .int .i64 (pos : Int), pv] 125 (0, 0)) ∧ RB w A l ∧ (∀ a, A = some a → D a.block)

/-- A reader. -/
structure Rdr (w : World) (rd : Value) (M : Nat) (D : Nat → Prop) (l : List UInt8) (pos : Nat) : Prop where
  len : l.length ≤ 2147483647
  le : pos ≤ 4294967296
  m3 : 3 ≤ M
  lt : M < w.heap.size
  d : ∀ k, D k → k < w.heap.size ∧ k ≠ M
  is : RdrB w rd M D l pos

theorem Rdr.chg {S : Nat → Prop} {w w' : World} {rd : Value} {M : Nat} {D : Nat → Prop} {l : List UInt8} {pos : Nat} (h : Rdr w rd M D l pos) (hc : Chg S w w') (hM : ¬ S M) (hD : ∀ k, D k → ¬ S k) : Rdr w' rd M D l pos := by
  obtain ⟨A, n, c, pv, e, hn, hnc, hR, hA, hd⟩ := h.is
  exact ⟨h.len, h.le, h.m3, Nat.lt_of_lt_of_le h.lt hc.size, fun k hk => ⟨Nat.lt_of_lt_of_le (h.d k hk).1 hc.size, (h.d k hk).2⟩,
    A, n, c, pv, e, hn, hnc, hc.row hR hM, hA.chg hc (fun a ha => hD _ (hd a ha)), hd⟩
theorem Rdr.later {w w' : World} {rd : Value} {M : Nat} {D : Nat → Prop} {l : List UInt8} {pos : Nat} (h : Rdr w rd M D l pos) (hb : Below w.heap.size w w') : Rdr w' rd M D l pos :=
  h.chg (Chg.of_below (S := fun k => w.heap.size ≤ k) hb (fun _ _ h => h)) (Nat.not_le.2 h.lt) (fun k hk => Nat.not_le.2 (h.d k hk).1)

/-- A new reader of bytes. -/
theorem Rdr.made {w : World} {A : Option Addr} {n c : Nat} {l : List UInt8} (hn : n = l.length) (hb : n ≤ 2147483647) (hnc : n ≤ c) (hA : RB w A l) (hA2 : ∀ a, A = some a → a.block < w.heap.size) (h3 : 3 ≤ w.heap.size) :
    Rdr (w.alloc (.cells #[.slice A n c, .int .i64 0, .int .i64 (-1)] 125)) (.iface 105 (.pointer (some ⟨w.heap.size, 0, none⟩))) w.heap.size (fun k => ∃ a, A = some a ∧ a.block = k) l 0 :=
  ⟨by omega, by omega, h3, by simp, fun k hk => by
    obtain ⟨a, ha, rfl⟩ := hk
    have := hA2 a ha
    simp
    omega, A, n, c, _, rfl, hn, hnc, heap_alloc_new w _, hA.later ((Below.refl _ _).alloc (Nat.le_refl _) _), fun a ha => ⟨a, ha, rfl⟩⟩

/-- As many bytes are read as there is room for. -/
theorem rdr_full (rd : Value) (M g : Nat) (D : Nat → Prop) (l : List UInt8) (pos m : Nat) (T : TypeId) (cur : List Value) (w : World)
    (hR : Hid (Rdr w rd M D l pos)) (hpos : Hid (pos + m ≤ l.length)) (hm : 0 < m) (hg : Hid (w.heap[g]? = some (.cells cur.toArray T (0, 0)))) (hfit : Hid (m = cur.length)) (hgD : Hid (¬ D g)) (hgM : g ≠ M) :
    Calls Tryd.prog 38 #[rd, .slice (some ⟨g, 0, none⟩) m m] w fun e w' => e = .returned (.tuple #[.int .i64 m, .nilIface]) ∧
      Hid (Rdr w' rd M D l (pos + m)) ∧ Hid (w'.heap[g]? = some (.cells (((l.drop pos).take m).map bv).toArray T (0, 0))) ∧ Chg (fun k => k = M ∨ k = g) w w' ∧ w'.heap.size = w.heap.size := by
  obtain ⟨A, n, c, pv, rfl, hn, hnc, hRow, hA, hd⟩ := hR.out.is
  have hlen := hR.out.len
  have hp := hpos.out
  refine (readFull_all M g A l n c pos m pv 125 T cur w (Lib.hid hn) (by omega) (by omega) hm (by omega) hnc (fun e => hgM e.symm) (Lib.hid hRow) hg hfit hA
    (fun a ha => ⟨(hR.out.d _ (hd a ha)).2, fun e => hgD.out (e ▸ hd a ha)⟩)).mono ?_
  rintro e w' ⟨rfl, h1, h2, h3, h4⟩
  refine ⟨rfl, Lib.hid ⟨hlen, by omega, hR.out.m3, by rw [h4]; exact hR.out.lt, fun k hk => ⟨by rw [h4]; exact (hR.out.d k hk).1, (hR.out.d k hk).2⟩, A, n, c, _, rfl, hn, hnc, h1.out, hA.chg h3 (fun a ha e => ?_), hd⟩, h2, h3, h4⟩
  rcases e with e | e
  · exact (hR.out.d _ (hd a ha)).2 e
  · exact hgD.out (e ▸ hd a ha)

/-- Where too few bytes are left there is an error. -/
theorem rdr_short (rd : Value) (M g : Nat) (D : Nat → Prop) (l : List UInt8) (pos m : Nat) (T : TypeId) (cur : List Value) (w : World) (TE TU : TypeId) (vE vU : Value) (hErr : Hid (ErrsAt w TE TU vE vU))
    (hR : Hid (Rdr w rd M D l pos)) (hpos : Hid (l.length < pos + m)) (hm : 0 < m) (hm' : m ≤ 2147483647) (hg : Hid (w.heap[g]? = some (.cells cur.toArray T (0, 0)))) (hfit : Hid (m = cur.length)) (hgD : Hid (¬ D g)) (hgM : g ≠ M) (hg3 : 3 ≤ g) :
    Calls Tryd.prog 38 #[rd, .slice (some ⟨g, 0, none⟩) m m] w (Fell w fun k => k = M ∨ k = g) := by
  obtain ⟨A, n, c, pv, rfl, hn, hnc, hRow, hA, hd⟩ := hR.out.is
  have hlen := hR.out.len
  have hp := hpos.out
  exact readFull_short M g A l n c pos m pv 125 T cur w TE TU vE vU hErr (Lib.hid hn) (by omega) (by omega) hm (by omega) hnc ⟨hR.out.m3, hg3⟩ (fun e => hgM e.symm) (Lib.hid hRow) hg hfit hA
    (fun a ha => ⟨(hR.out.d _ (hd a ha)).2, fun e => hgD.out (e ▸ hd a ha)⟩)
/-- A cell of the struct is stored: what is known afterwards. -/
theorem storedV {w0 w : World} {x : Value} {V M g o : Nat} {cs : Array Value} {TV : TypeId} {s l : List UInt8} {S : Nat → Prop} {rd : Value} {D : Nat → Prop} {pos : Nat} (q i : Nat) (hV : Hid (w.heap[V]? = some (.cells cs TV (0, 0)))) (hB : Hid (RB w (some ⟨g, o, none⟩) s)) (hC : Chg S w0 w)
    (hR : Hid (Rdr w rd M D l pos)) (hS : S V) (hg : g ≠ V) (hVM : V ≠ M) (hVD : Hid (¬ D V)) :
    ∃ w', w' = (w.drewN q).setCell ⟨V, i, none⟩ x ∧ Hid (w'.heap[V]? = some (.cells (cs.setIfInBounds i x) TV (0, 0))) ∧ Hid (RB w' (some ⟨g, o, none⟩) s) ∧ Chg S w0 w' ∧ Hid (Rdr w' rd M D l pos) := by
  have hc : Chg (· = V) w ((w.drewN q).setCell ⟨V, i, none⟩ x) := ((Chg.refl _ w).drewN q).setCell _ _ (.inl rfl)
  exact ⟨_, rfl, Lib.hid (heap_setCell_same (w.drewN q) V i _ TV _ hV.out), Lib.hid (hB.out.chg hc fun a ha => by cases ha; exact hg), (hC.drewN q).setCell _ _ (.inl hS), Lib.hid (hR.out.chg hc (fun e => hVM e.symm) (fun k hk e => hVD.out (e ▸ hk)))⟩
theorem storedV0 {w0 w : World} {x : Value} {V M g o : Nat} {cs : Array Value} {TV : TypeId} {s l : List UInt8} {S : Nat → Prop} {rd : Value} {D : Nat → Prop} {pos : Nat} (i : Nat) (hV : Hid (w.heap[V]? = some (.cells cs TV (0, 0)))) (hB : Hid (RB w (some ⟨g, o, none⟩) s)) (hC : Chg S w0 w)
    (hR : Hid (Rdr w rd M D l pos)) (hS : S V) (hg : g ≠ V) (hVM : V ≠ M) (hVD : Hid (¬ D V)) :
    ∃ w', w' = w.setCell ⟨V, i, none⟩ x ∧ Hid (w'.heap[V]? = some (.cells (cs.setIfInBounds i x) TV (0, 0))) ∧ Hid (RB w' (some ⟨g, o, none⟩) s) ∧ Chg S w0 w' ∧ Hid (Rdr w' rd M D l pos) := storedV 0 i hV hB hC hR hS hg hVM hVD
/-- The struct's block is written: what is known afterwards. -/
theorem writtenV {w0 w w' : World} {V M g o : Nat} {s l : List UInt8} {S : Nat → Prop} {rd : Value} {D : Nat → Prop} {pos : Nat} (hc : Chg (· = V) w w') (hB : Hid (RB w (some ⟨g, o, none⟩) s)) (hC : Chg S w0 w)
    (hR : Hid (Rdr w rd M D l pos)) (hS : S V) (hg : g ≠ V) (hVM : V ≠ M) (hVD : Hid (¬ D V)) :
    Hid (RB w' (some ⟨g, o, none⟩) s) ∧ Chg S w0 w' ∧ Hid (Rdr w' rd M D l pos) :=
  ⟨Lib.hid (hB.out.chg hc fun a ha => by cases ha; exact hg), hC.trans (hc.mono fun k _ e => .inl (by rw [e]; exact hS)), Lib.hid (hR.out.chg hc (fun e => hVM e.symm) (fun k hk e => hVD.out (e ▸ hk)))⟩
end Go.Proofs.YtmgmmdhaklokjaaDoor
