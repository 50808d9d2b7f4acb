/-
  What is kept while a file that is to be made is put together: its rows and its value. No program in sight.
  The widths of an optional header, as a row of a known kind. (The texts of SpecW, with another end.)
  laws.peOf: the file that is to be made, out of numbers.
  laws.peOf where there are no sections: the symbols' loop.
-/
import Derived.Test.YtbpebngjpecncaaGreatDoorPeOfT
import Derived.Test.YtbpebngjpecncaaGreatDoorSpecW
import Derived.Test.YtbpebngjpecncaaGreatDoorRecs
import Derived.Test.YtbpebngjpecncaaGreatDoorPeStub
import Derived.Deep.CutRange
import Derived.Deep.RegionLaw
namespace Go.Proofs.YtbpebngjpecncaaGreatDoor
set_option linter.unusedVariables false
set_option linter.unusedSimpArgs false
set_option maxRecDepth 100000
open Go Go.RowKit

theorem Keeps.below {e : TypeId} {w0 w w' : World} {base size n : Nat} {v : Value} {xs : List Value} (hb : Below w0.heap.size w0 w) (hown : w.ownsRow base e size v n xs) (hB : w0.heap.size ≤ base) (hg : w.grownBy w' v.ownBlock) : Below w0.heap.size w0 w' :=
  below_grow hb hown hB hg hb.size
theorem below_set {w0 w : World} (h : Below w0.heap.size w0 w) {V i : Nat} {x : Value} (hV : w0.heap.size ≤ V) : Below w0.heap.size w0 (w.setCell ⟨V, i, none⟩ x) := by
  have C := (Chg.refl (· = V) w).setCell ⟨V, i, none⟩ x (.inl rfl)
  exact ⟨C.os.trans h.os, C.tape.trans h.tape, C.output.trans h.output, Nat.le_trans h.size C.size, fun k hk => (C.block k (Nat.lt_of_lt_of_le hk h.size) (fun e => by omega)).trans (h.block k hk)⟩
/-- A cell of a row of numbers is stored. -/
theorem own_set {w : World} {base : Nat} {e : TypeId} {g n cap : Nat} {l : List Nat} (h : w.ownsRow base e 1 (.slice (some ⟨g, 0, none⟩) n cap) n (l.map uv)) (i x : Nat) (hi : i < n) :
    (w.setCell ⟨g, i, none⟩ (uv x)).ownsRow base e 1 (.slice (some ⟨g, 0, none⟩) n cap) n ((l.set i x).map uv) := by
  obtain ⟨hl, h | ⟨g', cap', cur, hv, hbg, hg, hnc, hcm, hcs, htake⟩⟩ := h
  · simp at h
  simp only [Value.slice.injEq, Option.some.injEq, Addr.mk.injEq, and_true] at hv
  obtain ⟨rfl, -, rfl⟩ := hv
  refine ⟨by simpa using hl, .inr ⟨g, cap, cur.setIfInBounds i (uv x), rfl, hbg, heap_setCell_same w g i _ _ _ hg, hnc, hcm, by simpa using hcs, ?_⟩⟩
  simp only [Nat.mul_one] at htake ⊢
  rw [Array.toList_setIfInBounds, List.take_set, htake, List.map_set]

structure LS (w0 w : World) (V8 V9 : Nat) (hd : List Value) (nums dirs : List Nat) (vN vD : Value) (bits : List BitL) (vB : Value) (bvs : List Value) (syms : List SymL) (vS : Value) (svs : List Value) (xs : List Nat) (vX : Value) : Prop where
  n : w.ownsRow w0.heap.size 54 1 vN nums.length (nums.map uv)
  d : w.ownsRow w0.heap.size 54 1 vD dirs.length (dirs.map uv)
  nd : Apart vN vD
  b : w.ownsRow w0.heap.size 57 6 vB bits.length bvs
  br : Recs RBit w 6 bits.length bvs bits
  s : w.ownsRow w0.heap.size 45 5 vS syms.length svs
  sr : Recs RSym w 5 syms.length svs syms
  x : w.ownsRow w0.heap.size 3 1 vX xs.length (xs.map fun n : Nat => Value.int .i64 n)
  v9 : w.heap[V9]? = some (.cells (hd ++ [vN, vD, vB, vS, vX]).toArray 30 (0, 0))
  v8 : ∃ cs : List Value, cs.length = 10 ∧ w.heap[V8]? = some (.cells cs.toArray 30 (0, 0))
  bw : Below w0.heap.size w0 w
  l8 : w0.heap.size ≤ V8
  l9 : w0.heap.size ≤ V9
  n89 : V8 ≠ V9
  h5 : hd.length = 5

section
variable {w0 w : World} {V8 V9 : Nat} {hd : List Value} {nums dirs : List Nat} {vN vD : Value} {bits : List BitL} {vB : Value} {bvs : List Value} {syms : List SymL} {vS : Value} {svs : List Value} {xs : List Nat} {vX : Value}
theorem LS.start (v9 : w.heap[V9]? = some (.cells (hd ++ ([.slice none 0 0, .slice none 0 0, .slice none 0 0, .slice none 0 0, .slice none 0 0] : List Value)).toArray 30 (0, 0)))
    (v8 : ∃ cs : List Value, cs.length = 10 ∧ w.heap[V8]? = some (.cells cs.toArray 30 (0, 0))) (bw : Below w0.heap.size w0 w) (l8 : w0.heap.size ≤ V8) (l9 : w0.heap.size ≤ V9) (n89 : V8 ≠ V9) (h5 : hd.length = 5) :
    LS w0 w V8 V9 hd [] [] (.slice none 0 0) (.slice none 0 0) [] (.slice none 0 0) [] [] (.slice none 0 0) [] [] (.slice none 0 0) :=
  ⟨World.ownsRow_nil _ _ _ _, World.ownsRow_nil _ _ _ _, fun k h => by simp [Value.ownBlock] at h, World.ownsRow_nil _ _ _ _, Recs.nil _ _ _, World.ownsRow_nil _ _ _ _, Recs.nil _ _ _, World.ownsRow_nil _ _ _ _, v9, v8, bw, l8, l9, n89, h5⟩
theorem LS.later (h : LS w0 w V8 V9 hd nums dirs vN vD bits vB bvs syms vS svs xs vX) {w' : World} (hb : Below w.heap.size w w') : LS w0 w' V8 V9 hd nums dirs vN vD bits vB bvs syms vS svs xs vX := by
  obtain ⟨cs, h10, h2⟩ := h.v8
  exact ⟨owns_later h.n hb, owns_later h.d hb, h.nd, owns_later h.b hb, h.br.mono (fun _ _ hr => hr.later hb), owns_later h.s hb, h.sr.mono (fun _ _ hr => hr), owns_later h.x hb, (row_later hb (Lib.hid h.v9)).out, ⟨cs, h10, (row_later hb (Lib.hid h2)).out⟩,
    h.bw.trans (hb.mono h.bw.size), h.l8, h.l9, h.n89, h.h5⟩
theorem LS.keeps {e : TypeId} (h : LS w0 w V8 V9 hd nums dirs vN vD bits vB bvs syms vS svs xs vX) {w' : World} (K : Keeps e w w') (hb : Below w0.heap.size w0 w') (h1 : 54 ≠ e) (h2 : 5 ≠ e) (h3 : 25 ≠ e) (h4 : 57 ≠ e) (h5 : 45 ≠ e) (h6 : 3 ≠ e) (h7 : 30 ≠ e) :
    LS w0 w' V8 V9 hd nums dirs vN vD bits vB bvs syms vS svs xs vX := by
  obtain ⟨cs, h10, g⟩ := h.v8
  exact ⟨owns_keeps h.n K h1, owns_keeps h.d K h1, h.nd, owns_keeps h.b K h4, h.br.mono (fun _ _ hr => hr.keeps K h2 h1 h3), owns_keeps h.s K h5, h.sr.mono (fun _ _ hr => hr), owns_keeps h.x K h6, K.block _ _ _ _ h.v9 h7, ⟨cs, h10, K.block _ _ _ _ g h7⟩, hb, h.l8, h.l9, h.n89, h.h5⟩
/-- The value's block is written. -/
theorem LS.setAt (i : Nat) (x : Value) {hd' : List Value} {vN' vD' vB' vS' vX' : Value}
    (n : w.ownsRow w0.heap.size 54 1 vN' nums.length (nums.map uv)) (d : w.ownsRow w0.heap.size 54 1 vD' dirs.length (dirs.map uv)) (nd : Apart vN' vD')
    (b : w.ownsRow w0.heap.size 57 6 vB' bits.length bvs) (br : Recs RBit w 6 bits.length bvs bits)
    (s : w.ownsRow w0.heap.size 45 5 vS' syms.length svs) (sr : Recs RSym w 5 syms.length svs syms)
    (xo : w.ownsRow w0.heap.size 3 1 vX' xs.length (xs.map fun n : Nat => Value.int .i64 n))
    {cs : List Value} (v9 : w.heap[V9]? = some (.cells cs.toArray 30 (0, 0))) (hcs : cs.set i x = hd' ++ [vN', vD', vB', vS', vX'])
    (v8 : ∃ cs : List Value, cs.length = 10 ∧ w.heap[V8]? = some (.cells cs.toArray 30 (0, 0))) (bw : Below w0.heap.size w0 w) (l8 : w0.heap.size ≤ V8) (l9 : w0.heap.size ≤ V9) (n89 : V8 ≠ V9) (h5 : hd'.length = 5) :
    LS w0 (w.setCell ⟨V9, i, none⟩ x) V8 V9 hd' nums dirs vN' vD' bits vB' bvs syms vS' svs xs vX' := by
  have C := (Chg.refl (· = V9) w).setCell ⟨V9, i, none⟩ x (.inl rfl)
  have K : Keeps 30 w (w.setCell ⟨V9, i, none⟩ x) := keeps_set v9
  obtain ⟨c8, h10, g⟩ := v8
  refine ⟨owns_keeps n K (by decide), owns_keeps d K (by decide), nd, owns_keeps b K (by decide), br.mono (fun _ _ hr => hr.keeps K (by decide) (by decide) (by decide)), owns_keeps s K (by decide), sr.mono (fun _ _ hr => hr), owns_keeps xo K (by decide), ?_, ⟨c8, h10, C.row g n89⟩, below_set bw l9, l8, l9, n89, h5⟩
  rw [heap_setCell_same w V9 i _ _ _ v9, List.setIfInBounds_toArray, hcs]
theorem set5 {hd : List Value} (h : hd.length = 5) (t : List Value) (i : Nat) (x : Value) : (hd ++ t).set (5 + i) x = hd ++ t.set i x := by
  rw [List.set_append_right _ _ (by omega), h, Nat.add_sub_cancel_left]
/-- The head's numbers. -/
theorem LS.setH (h : LS w0 w V8 V9 hd nums dirs vN vD bits vB bvs syms vS svs xs vX) (i : Nat) (x : Value) (hi : i < 5) : LS w0 (w.setCell ⟨V9, i, none⟩ x) V8 V9 (hd.set i x) nums dirs vN vD bits vB bvs syms vS svs xs vX :=
  LS.setAt i x h.n h.d h.nd h.b h.br h.s h.sr h.x h.v9 (by rw [List.set_append_left _ _ (by rw [h.h5]; exact hi)]) h.v8 h.bw h.l8 h.l9 h.n89 (by simpa using h.h5)
/-- The numbers of the optional header have grown. -/
theorem LS.pushN (h : LS w0 w V8 V9 hd nums dirs vN vD [] vB [] syms vS svs xs vX) {w1 : World} {vN' : Value} {l : List Nat} (ho : w1.ownsRow w0.heap.size 54 1 vN' l.length (l.map uv)) (hg : w.grownBy w1 vN.ownBlock) (hat : vN'.ownBlock = vN.ownBlock ∨ vN'.ownBlock = some w.heap.size) :
    LS w0 (w1.setCell ⟨V9, 5, none⟩ vN') V8 V9 hd l dirs vN' vD [] vB [] syms vS svs xs vX := by
  have K := Keeps.of_grown h.n hg
  obtain ⟨cs, h10, g⟩ := h.v8
  have a1 := h.nd.kept h.d hg hat
  exact LS.setAt 5 vN' ho a1.1 a1.2 (owns_keeps h.b K (by decide)) (Recs.nil _ _ _) (owns_keeps h.s K (by decide)) (h.sr.mono (fun _ _ hr => hr)) (owns_keeps h.x K (by decide)) (K.block _ _ _ _ h.v9 (by decide)) (set5 h.h5 _ 0 _) ⟨cs, h10, K.block _ _ _ _ g (by decide)⟩
    (Keeps.below h.bw h.n (Nat.le_refl _) hg) h.l8 h.l9 h.n89 h.h5
/-- The directories have grown. -/
theorem LS.pushD (h : LS w0 w V8 V9 hd nums dirs vN vD [] vB [] syms vS svs xs vX) {w1 : World} {vD' : Value} {l : List Nat} (ho : w1.ownsRow w0.heap.size 54 1 vD' l.length (l.map uv)) (hg : w.grownBy w1 vD.ownBlock) (hat : vD'.ownBlock = vD.ownBlock ∨ vD'.ownBlock = some w.heap.size) :
    LS w0 (w1.setCell ⟨V9, 6, none⟩ vD') V8 V9 hd nums l vN vD' [] vB [] syms vS svs xs vX := by
  have K := Keeps.of_grown h.d hg
  obtain ⟨cs, h10, g⟩ := h.v8
  have a1 := h.nd.symm.kept h.n hg hat
  exact LS.setAt 6 vD' a1.1 ho a1.2.symm (owns_keeps h.b K (by decide)) (Recs.nil _ _ _) (owns_keeps h.s K (by decide)) (h.sr.mono (fun _ _ hr => hr)) (owns_keeps h.x K (by decide)) (K.block _ _ _ _ h.v9 (by decide)) (set5 h.h5 _ 1 _) ⟨cs, h10, K.block _ _ _ _ g (by decide)⟩
    (Keeps.below h.bw h.d (Nat.le_refl _) hg) h.l8 h.l9 h.n89 h.h5
/-- A section more. -/
theorem LS.pushB (h : LS w0 w V8 V9 hd nums dirs vN vD bits vB bvs syms vS svs xs vX) {w1 : World} {vB' : Value} {b : BitL} {cs1 : List Value} (ho : w1.ownsRow w0.heap.size 57 6 vB' (bits.length + 1) (bvs ++ cs1)) (hg : w.grownBy w1 vB.ownBlock) (hl : cs1.length = 6) (hr : RBit w cs1 b) :
    LS w0 (w1.setCell ⟨V9, 7, none⟩ vB') V8 V9 hd nums dirs vN vD (bits ++ [b]) vB' (bvs ++ cs1) syms vS svs xs vX := by
  have K := Keeps.of_grown h.b hg
  obtain ⟨cs, h10, g⟩ := h.v8
  have e : (bits ++ [b]).length = bits.length + 1 := by simp
  exact LS.setAt 7 vB' (owns_keeps h.n K (by decide)) (owns_keeps h.d K (by decide)) h.nd (by rw [e]; exact ho) (by rw [e]; exact (h.br.push hl hr).mono (fun _ _ hr => hr.keeps K (by decide) (by decide) (by decide))) (owns_keeps h.s K (by decide)) (h.sr.mono (fun _ _ hr => hr)) (owns_keeps h.x K (by decide)) (K.block _ _ _ _ h.v9 (by decide)) (set5 h.h5 _ 2 _) ⟨cs, h10, K.block _ _ _ _ g (by decide)⟩
    (Keeps.below h.bw h.b (Nat.le_refl _) hg) h.l8 h.l9 h.n89 h.h5
/-- A symbol more. -/
theorem LS.pushS (h : LS w0 w V8 V9 hd nums dirs vN vD bits vB bvs syms vS svs xs vX) {w1 : World} {vS' : Value} {y : SymL} {cs1 : List Value} (ho : w1.ownsRow w0.heap.size 45 5 vS' (syms.length + 1) (svs ++ cs1)) (hg : w.grownBy w1 vS.ownBlock) (hl : cs1.length = 5) (hr : RSym w cs1 y) :
    LS w0 (w1.setCell ⟨V9, 8, none⟩ vS') V8 V9 hd nums dirs vN vD bits vB bvs (syms ++ [y]) vS' (svs ++ cs1) xs vX := by
  have K := Keeps.of_grown h.s hg
  obtain ⟨cs, h10, g⟩ := h.v8
  have e : (syms ++ [y]).length = syms.length + 1 := by simp
  exact LS.setAt 8 vS' (owns_keeps h.n K (by decide)) (owns_keeps h.d K (by decide)) h.nd (owns_keeps h.b K (by decide)) (h.br.mono (fun _ _ hr => hr.keeps K (by decide) (by decide) (by decide))) (by rw [e]; exact ho) (by rw [e]; exact (h.sr.push hl hr).mono (fun _ _ hr => hr)) (owns_keeps h.x K (by decide)) (K.block _ _ _ _ h.v9 (by decide)) (set5 h.h5 _ 3 _) ⟨cs, h10, K.block _ _ _ _ g (by decide)⟩
    (Keeps.below h.bw h.s (Nat.le_refl _) hg) h.l8 h.l9 h.n89 h.h5
/-- A number of auxiliary symbols more. -/
theorem LS.pushX (h : LS w0 w V8 V9 hd nums dirs vN vD bits vB bvs syms vS svs xs vX) {w1 : World} {vX' : Value} {l : List Nat} (ho : w1.ownsRow w0.heap.size 3 1 vX' l.length (l.map fun n : Nat => Value.int .i64 n)) (hg : w.grownBy w1 vX.ownBlock) :
    LS w0 (w1.setCell ⟨V9, 9, none⟩ vX') V8 V9 hd nums dirs vN vD bits vB bvs syms vS svs l vX' := by
  have K := Keeps.of_grown h.x hg
  obtain ⟨cs, h10, g⟩ := h.v8
  exact LS.setAt 9 vX' (owns_keeps h.n K (by decide)) (owns_keeps h.d K (by decide)) h.nd (owns_keeps h.b K (by decide)) (h.br.mono (fun _ _ hr => hr.keeps K (by decide) (by decide) (by decide))) (owns_keeps h.s K (by decide)) (h.sr.mono (fun _ _ hr => hr)) ho (K.block _ _ _ _ h.v9 (by decide)) (set5 h.h5 _ 4 _) ⟨cs, h10, K.block _ _ _ _ g (by decide)⟩
    (Keeps.below h.bw h.x (Nat.le_refl _) hg) h.l8 h.l9 h.n89 h.h5
/-- A number of the optional header is stored. -/
theorem LS.poke {g cap m : Nat} (h : LS w0 w V8 V9 hd nums dirs (.slice (some ⟨g, 0, none⟩) m cap) vD [] vB [] syms vS svs xs vX) (hm : Hid (nums.length = m)) (i x : Nat) (hi : i < m) :
    LS w0 (w.setCell ⟨g, i, none⟩ (uv x)) V8 V9 hd (nums.set i x) dirs (.slice (some ⟨g, 0, none⟩) m cap) vD [] vB [] syms vS svs xs vX := by
  have hm' := hm.out
  subst hm'
  obtain ⟨hl, hz | ⟨g', cap', cur, hv, hbg, hg, -⟩⟩ := h.n
  · simp at hz
  simp only [Value.slice.injEq, Option.some.injEq, Addr.mk.injEq, and_true] at hv
  obtain ⟨rfl, -, rfl⟩ := hv
  have C := (Chg.refl (· = g) w).setCell ⟨g, i, none⟩ (uv x) (.inl rfl)
  have K : Keeps 54 w (w.setCell ⟨g, i, none⟩ (uv x)) := Keeps.of_chg C (fun k _ hk => ⟨cur, (0, 0), by rw [hk]; exact hg⟩)
  obtain ⟨cs, h10, g8⟩ := h.v8
  have n' := own_set h.n i x hi
  refine ⟨by simpa using n', owns_chg h.d C (fun k hk e => ?_), h.nd, owns_keeps h.b K (by decide), Recs.nil _ _ _, owns_keeps h.s K (by decide), h.sr.mono (fun _ _ hr => hr), owns_keeps h.x K (by decide), K.block _ _ _ _ h.v9 (by decide), ⟨cs, h10, K.block _ _ _ _ g8 (by decide)⟩, below_set h.bw hbg, h.l8, h.l9, h.n89, h.h5⟩
  subst e
  exact h.nd k (by simp [Value.ownBlock]) hk
/-- What is wanted of a cell that is stored. -/
theorem LS.cellN {g cap m : Nat} (h : LS w0 w V8 V9 hd nums dirs (.slice (some ⟨g, 0, none⟩) m cap) vD bits vB bvs syms vS svs xs vX) (hm : Hid (nums.length = m)) (i : Nat) (hi : i < m) :
    (∃ x, w.cell? ⟨g, i, none⟩ = some (uv x)) ∧ w.frozen? ⟨g, i, none⟩ = false := by
  have hm' := hm.out
  subst hm'
  obtain ⟨hl, hz | ⟨g', cap', cur, hv, hbg, hg, hnc, hcm, hcs, htake⟩⟩ := h.n
  · simp at hz
  simp only [Value.slice.injEq, Option.some.injEq, Addr.mk.injEq, and_true] at hv
  obtain ⟨rfl, -, rfl⟩ := hv
  refine ⟨⟨nums[i], ?_⟩, frozen_of_row _ g i _ _ hg⟩
  rw [cell_of_row w g i _ _ _ hg]
  simp only [Nat.mul_one] at htake
  have h2 : (nums.map uv)[i]? = some (uv nums[i]) := by rw [List.getElem?_map, List.getElem?_eq_getElem hi]; rfl
  rw [← htake, List.getElem?_take_of_lt hi] at h2
  simpa using h2
end

/-- A section that is being put together. -/
structure BS (wr w : World) (V : Nat) (h4 : List Value) (dl : List UInt8) (vd : Value) (rl : List (Nat × Nat × Nat)) (vr : Value) (rvs : List Value) : Prop where
  d : w.ownsRow wr.heap.size 5 1 vd dl.length (dl.map bv)
  r : w.ownsRow wr.heap.size 25 1 vr rl.length rvs
  rr : Recs RRel w 1 rl.length rvs rl
  v : w.heap[V]? = some (.cells (h4 ++ [vd, vr]).toArray 57 (0, 0))
  bw : Below wr.heap.size wr w
  l : wr.heap.size ≤ V
  h : h4.length = 4
section
variable {wr w : World} {V : Nat} {h4 : List Value} {dl : List UInt8} {vd : Value} {rl : List (Nat × Nat × Nat)} {vr : Value} {rvs : List Value}
theorem BS.later (h : BS wr w V h4 dl vd rl vr rvs) {w' : World} (hb : Below w.heap.size w w') : BS wr w' V h4 dl vd rl vr rvs :=
  ⟨owns_later h.d hb, owns_later h.r hb, h.rr.mono (fun _ _ hr => hr.later hb), (row_later hb (Lib.hid h.v)).out, h.bw.trans (hb.mono h.bw.size), h.l, h.h⟩
theorem set4 {hd : List Value} (h : hd.length = 4) (t : List Value) (i : Nat) (x : Value) : (hd ++ t).set (4 + i) x = hd ++ t.set i x := by
  rw [List.set_append_right _ _ (by omega), h, Nat.add_sub_cancel_left]
theorem BS.pushD (h : BS wr w V h4 dl vd rl vr rvs) {w1 : World} {vd' : Value} {l : List UInt8} (ho : w1.ownsRow wr.heap.size 5 1 vd' l.length (l.map bv)) (hg : w.grownBy w1 vd.ownBlock) :
    BS wr (w1.setCell ⟨V, 4, none⟩ vd') V h4 l vd' rl vr rvs := by
  have K := Keeps.of_grown h.d hg
  have g := K.block _ _ _ _ h.v (by decide)
  have K2 : Keeps 57 w1 (w1.setCell ⟨V, 4, none⟩ vd') := keeps_set g
  refine ⟨owns_keeps ho K2 (by decide), owns_keeps (owns_keeps h.r K (by decide)) K2 (by decide), h.rr.mono (fun _ _ hr => (hr.keeps K (by decide)).keeps K2 (by decide)), ?_, below_set (Keeps.below h.bw h.d (Nat.le_refl _) hg) h.l, h.l, h.h⟩
  rw [heap_setCell_same w1 V 4 _ _ _ g, List.setIfInBounds_toArray, show (h4 ++ [vd, vr]).set 4 vd' = h4 ++ [vd', vr] from set4 h.h _ 0 _]
theorem BS.pushR (h : BS wr w V h4 dl vd rl vr rvs) {w1 : World} {vr' : Value} {x : Nat × Nat × Nat} {cs1 : List Value} (ho : w1.ownsRow wr.heap.size 25 1 vr' (rl.length + 1) (rvs ++ cs1)) (hg : w.grownBy w1 vr.ownBlock) (hl : cs1.length = 1) (hr : RRel w cs1 x) :
    BS wr (w1.setCell ⟨V, 5, none⟩ vr') V h4 dl vd (rl ++ [x]) vr' (rvs ++ cs1) := by
  have K := Keeps.of_grown h.r hg
  have g := K.block _ _ _ _ h.v (by decide)
  have K2 : Keeps 57 w1 (w1.setCell ⟨V, 5, none⟩ vr') := keeps_set g
  have e : (rl ++ [x]).length = rl.length + 1 := by simp
  refine ⟨owns_keeps (owns_keeps h.d K (by decide)) K2 (by decide), by rw [e]; exact owns_keeps ho K2 (by decide), by rw [e]; exact (h.rr.push hl hr).mono (fun _ _ hr => (hr.keeps K (by decide)).keeps K2 (by decide)), ?_, below_set (Keeps.below h.bw h.r (Nat.le_refl _) hg) h.l, h.l, h.h⟩
  rw [heap_setCell_same w1 V 5 _ _ _ g, List.setIfInBounds_toArray, show (h4 ++ [vd, vr]).set 5 vr' = h4 ++ [vd, vr'] from set4 h.h _ 1 _]
end

open Go Go.RowKit
attribute [local go_sem ↓] Go.wp_at_zero Go.wp_at_succ

set_option maxHeartbeats 1000000 in
theorem peOptionalT_false (w : World) :
    Calls Tryz.prog 11 #[.bool false] w fun e w' => (∃ v c, e = .returned (.slice v 30 c) ∧ 30 ≤ c ∧ Hid (RT w' 3 v 1 30 (optW32.map iv))) ∧ Below w.heap.size w w' := by
  obtain ⟨i0, hi, hz0, hz1, hz2⟩ := info_parts Tryz.infoInt
  go_enter Tryz.func11, Tryz.ntmps11
  go_wp2_with fail
  refine (fours_any 5 (by omega) _).mono ?_
  rintro e w1 ⟨⟨v, rfl, hown⟩, hb1⟩
  obtain ⟨A, c, rfl, R1, -, -⟩ := RC.of_owns hown
  have own0 := Lib.hid (((World.ownsRow_lit (base := w.heap.size) (e := 3) (size := 1) w #[.int .i64 2, .int .i64 1, .int .i64 1] 3 (Nat.le_refl _) (by simp [maxLen]) (by simp))).kept (w' := w1) (row := none) ⟨hb1.os, hb1.tape, hb1.output, hb1.size, fun k hk _ => hb1.block k hk⟩ (.inr (by simp [Value.ownBlock])))
  replace R1 := Lib.hid R1
  have hz := hb1.size
  simp only [World.size_alloc] at hz
  have bb := Lib.hid (((Below.refl w.heap.size w).alloc (Nat.le_refl _) _).trans (hb1.mono (by simp)))
  clear hown hb1
  go_wp2_with (at_builtin; refine Stop.mk ?_)
  refine Stop.go ?_
  refine wpList_append_any rfl (.tmp 5) (.tmp 6) 28 rfl w.heap.size 3 i0 (.int .i64 0) 1 8 Tryz.underlying28 hi hz0 hz1 hz2 rfl (by omega) _ 3 _ rfl own0.out A 5 c _ rfl R1.out (List.all_eq_true.1 rfl) (by simp only [maxLen]; omega) (by omega) (by omega) ?_
  intro v2 w2 own2 g2 hat2
  have b2 := Lib.hid (bb.out.grown g2 (by omega) (fun q hq => (own0.out.lt q hq).1))
  have hz2' := b2.out.size
  clear g2 hat2 own0 R1 bb
  replace own2 := Lib.hid own2
  go_wp2_with (at_builtin; refine Stop.mk ?_)
  refine Stop.go ?_
  refine wpList_append_any rfl (.tmp 12) (.tmp 13) 28 rfl w.heap.size 3 i0 (.int .i64 0) 1 8 Tryz.underlying28 hi hz0 hz1 hz2 rfl (by omega) _ 8 _ rfl (own2.out.alloc _) (some ⟨w2.heap.size, 0, none⟩) 2 2 (([4, 4] : List Int).map iv) rfl (rc_new rfl rfl) (List.all_eq_true.1 rfl) (by simp only [maxLen]; omega) (by omega) (by simp; omega) ?_
  intro v3 w3 own3 g3 hat3
  have b3 := Lib.hid ((b2.out.alloc hz2' _).grown g3 (by simp; omega) (fun q hq => (own2.out.lt q hq).1))
  have hz3' := b3.out.size
  clear g3 hat3 own2 b2
  replace own3 := Lib.hid own3
  go_wp2_with (at_builtin; refine Stop.mk ?_)
  refine Stop.go ?_
  refine wpList_append_any rfl (.tmp 15) (.tmp 16) 28 rfl w.heap.size 3 i0 (.int .i64 0) 1 8 Tryz.underlying28 hi hz0 hz1 hz2 rfl (by omega) _ 10 _ rfl (own3.out.alloc _) (some ⟨w3.heap.size, 0, none⟩) 14 14 (([4, 4, 2, 2, 2, 2, 2, 2, 4, 4, 4, 4, 2, 2] : List Int).map iv) rfl (rc_new rfl rfl) (List.all_eq_true.1 rfl) (by simp only [maxLen]; omega) (by omega) (by simp; omega) ?_
  intro v4 w4 own4 g4 hat4
  have b4 := Lib.hid ((b3.out.alloc hz3' _).grown g4 (by simp; omega) (fun q hq => (own3.out.lt q hq).1))
  have hz4' := b4.out.size
  clear g4 hat4 own3 b3
  replace own4 := Lib.hid own4
  go_wp2_with fail
  refine (addr_any _ w4).mono ?_
  rintro e w' ⟨rfl, rfl⟩
  go_wp2_with (at_builtin; refine Stop.mk ?_)
  refine Stop.go ?_
  refine wpList_append_any rfl (.tmp 20) (.tmp 25) 28 rfl w.heap.size 3 i0 (.int .i64 0) 1 8 Tryz.underlying28 hi hz0 hz1 hz2 rfl (by omega) _ 24 _ rfl (own4.out.alloc _) (some ⟨w4.heap.size, 0, none⟩) 6 6 (([4, 4, 4, 4, 4, 4] : List Int).map iv) rfl (rc_new rfl rfl) (List.all_eq_true.1 rfl) (by simp only [maxLen]; omega) (by omega) (by simp; omega) ?_
  intro v5 w5 own5 g5 hat5
  have b5 := Lib.hid ((b4.out.alloc hz4' _).grown g5 (by simp; omega) (fun q hq => (own4.out.lt q hq).1))
  have hz5' := b5.out.size
  clear g5 hat5 own4 b4
  replace own5 := Lib.hid own5
  go_wp2
  go_ret
  obtain ⟨C, d, rfl, RX, hcd, -⟩ := RT.of_owns own5.out
  exact ⟨⟨_, _, rfl, hcd, Lib.hid RX⟩, b5.out⟩

set_option maxHeartbeats 1000000 in
theorem peOptionalT_true (w : World) :
    Calls Tryz.prog 11 #[.bool true] w fun e w' => (∃ v c, e = .returned (.slice v 29 c) ∧ 29 ≤ c ∧ Hid (RT w' 3 v 1 29 (optW64.map iv))) ∧ Below w.heap.size w w' := by
  obtain ⟨i0, hi, hz0, hz1, hz2⟩ := info_parts Tryz.infoInt
  go_enter Tryz.func11, Tryz.ntmps11
  go_wp2_with fail
  refine (fours_any 5 (by omega) _).mono ?_
  rintro e w1 ⟨⟨v, rfl, hown⟩, hb1⟩
  obtain ⟨A, c, rfl, R1, -, -⟩ := RC.of_owns hown
  have own0 := Lib.hid (((World.ownsRow_lit (base := w.heap.size) (e := 3) (size := 1) w #[.int .i64 2, .int .i64 1, .int .i64 1] 3 (Nat.le_refl _) (by simp [maxLen]) (by simp))).kept (w' := w1) (row := none) ⟨hb1.os, hb1.tape, hb1.output, hb1.size, fun k hk _ => hb1.block k hk⟩ (.inr (by simp [Value.ownBlock])))
  replace R1 := Lib.hid R1
  have hz := hb1.size
  simp only [World.size_alloc] at hz
  have bb := Lib.hid (((Below.refl w.heap.size w).alloc (Nat.le_refl _) _).trans (hb1.mono (by simp)))
  clear hown hb1
  go_wp2_with (at_builtin; refine Stop.mk ?_)
  refine Stop.go ?_
  refine wpList_append_any rfl (.tmp 5) (.tmp 6) 28 rfl w.heap.size 3 i0 (.int .i64 0) 1 8 Tryz.underlying28 hi hz0 hz1 hz2 rfl (by omega) _ 3 _ rfl own0.out A 5 c _ rfl R1.out (List.all_eq_true.1 rfl) (by simp only [maxLen]; omega) (by omega) (by omega) ?_
  intro v2 w2 own2 g2 hat2
  have b2 := Lib.hid (bb.out.grown g2 (by omega) (fun q hq => (own0.out.lt q hq).1))
  have hz2' := b2.out.size
  clear g2 hat2 own0 R1 bb
  replace own2 := Lib.hid own2
  go_wp2_with (at_builtin; refine Stop.mk ?_)
  refine Stop.go ?_
  refine wpList_append_any rfl (.tmp 9) (.tmp 10) 28 rfl w.heap.size 3 i0 (.int .i64 0) 1 8 Tryz.underlying28 hi hz0 hz1 hz2 rfl (by omega) _ 8 _ rfl (own2.out.alloc _) (some ⟨w2.heap.size, 0, none⟩) 1 1 (([8] : List Int).map iv) rfl (rc_new rfl rfl) (List.all_eq_true.1 rfl) (by simp only [maxLen]; omega) (by omega) (by simp; omega) ?_
  intro v3 w3 own3 g3 hat3
  have b3 := Lib.hid ((b2.out.alloc hz2' _).grown g3 (by simp; omega) (fun q hq => (own2.out.lt q hq).1))
  have hz3' := b3.out.size
  clear g3 hat3 own2 b2
  replace own3 := Lib.hid own3
  go_wp2_with (at_builtin; refine Stop.mk ?_)
  refine Stop.go ?_
  refine wpList_append_any rfl (.tmp 15) (.tmp 16) 28 rfl w.heap.size 3 i0 (.int .i64 0) 1 8 Tryz.underlying28 hi hz0 hz1 hz2 rfl (by omega) _ 9 _ rfl (own3.out.alloc _) (some ⟨w3.heap.size, 0, none⟩) 14 14 (([4, 4, 2, 2, 2, 2, 2, 2, 4, 4, 4, 4, 2, 2] : List Int).map iv) rfl (rc_new rfl rfl) (List.all_eq_true.1 rfl) (by simp only [maxLen]; omega) (by omega) (by simp; omega) ?_
  intro v4 w4 own4 g4 hat4
  have b4 := Lib.hid ((b3.out.alloc hz3' _).grown g4 (by simp; omega) (fun q hq => (own3.out.lt q hq).1))
  have hz4' := b4.out.size
  clear g4 hat4 own3 b3
  replace own4 := Lib.hid own4
  go_wp2_with fail
  refine (addr_any _ w4).mono ?_
  rintro e w' ⟨rfl, rfl⟩
  go_wp2_with (at_builtin; refine Stop.mk ?_)
  refine Stop.go ?_
  refine wpList_append_any rfl (.tmp 20) (.tmp 25) 28 rfl w.heap.size 3 i0 (.int .i64 0) 1 8 Tryz.underlying28 hi hz0 hz1 hz2 rfl (by omega) _ 23 _ rfl (own4.out.alloc _) (some ⟨w4.heap.size, 0, none⟩) 6 6 (([8, 8, 8, 8, 4, 4] : List Int).map iv) rfl (rc_new rfl rfl) (List.all_eq_true.1 rfl) (by simp only [maxLen]; omega) (by omega) (by simp; omega) ?_
  intro v5 w5 own5 g5 hat5
  have b5 := Lib.hid ((b4.out.alloc hz4' _).grown g5 (by simp; omega) (fun q hq => (own4.out.lt q hq).1))
  have hz5' := b5.out.size
  clear g5 hat5 own4 b4
  replace own5 := Lib.hid own5
  go_wp2
  go_ret
  obtain ⟨C, d, rfl, RX, hcd, -⟩ := RT.of_owns own5.out
  exact ⟨⟨_, _, rfl, hcd, Lib.hid RX⟩, b5.out⟩

open Go Go.RowKit
attribute [local go_sem ↓] Go.wp_at_zero Go.wp_at_succ

/-- The text whose beginnings are the names. -/
def secTxt : List UInt8 := [46, 116, 101, 120, 116, 95, 111, 102, 95, 116, 104, 101, 95, 115, 101, 99, 116, 105, 111, 110]
theorem secTxt_ok {k : Nat} (h : k < 20) : (secTxt.take (k + 1)).length = k + 1 ∧ secTxt.take (k + 1) ≠ [] ∧ (0 : UInt8) ∉ secTxt.take (k + 1) ∧ (secTxt.take (k + 1)).head? ≠ some 47 := by
  have h2 : ∀ k : Fin 20, (secTxt.take (k.val + 1)).length = k.val + 1 ∧ secTxt.take (k.val + 1) ≠ [] ∧ (0 : UInt8) ∉ secTxt.take (k.val + 1) ∧ (secTxt.take (k.val + 1)).head? ≠ some 47 := by decide
  exact h2 ⟨k, h⟩
theorem extract_take (l : List UInt8) (k : Nat) : (⟨l.toArray⟩ : ByteArray).extract 0 k = ⟨(l.take k).toArray⟩ := by
  apply ByteArray.ext
  rw [ByteArray.data_extract]
  simp
theorem secSlice (k : Nat) (h : k < 20) (W : World) : (Instr.slice 9 (.string ⟨#[46, 116, 101, 120, 116, 95, 111, 102, 95, 116, 104, 101, 95, 115, 101, 99, 116, 105, 111, 110]⟩) none (some (.int .u32 (1 + (k : Int)))) none).run Tryz.prog W = .ok (.string ⟨(secTxt.take (k + 1)).toArray⟩) W := by
  have hs : (⟨#[46, 116, 101, 120, 116, 95, 111, 102, 95, 116, 104, 101, 95, 115, 101, 99, 116, 105, 111, 110]⟩ : ByteArray).size = 20 := rfl
  rw [run_slice_string_h W 9 _ Tryz.underlying9 .u32 (1 + (k : Int)) (by omega) (by rw [hs]; omega), ← extract_take]
  have : (1 + (k : Int)).toNat = k + 1 := by omega
  rw [this]
  rfl
theorem Tryz.infoU32 : (Tryz.prog.info? 22).map (fun i => (i.zero, i.size, i.bytes)) = some (some (.int .u32 0), 1, 4) := by kernel_rfl
theorem Tryz.infoNums : (Tryz.prog.info? 25).map (fun i => (i.zero, i.size, i.bytes)) = some (some (.slice none 0 0), 1, 24) := by kernel_rfl
theorem Tryz.infoBit : (Tryz.prog.info? 57).map (fun i => (i.zero, i.size, i.bytes)) = some (some (.agg #[.string ⟨#[]⟩, .int .u32 0, .int .u32 0, .int .u32 0, .slice none 0 0, .slice none 0 0]), 6, 80) := by kernel_rfl
/-- The elements of a row. -/
theorem rc_get {w : World} {a : Addr} {n : Nat} {ps : List Nat} (h : RC w (some a) 1 n (ps.map fun n : Nat => Value.int .u32 n)) (hn : n = ps.length) {k : Nat} {x : Nat} (hk : ps[k]? = some x) : w.cell? (a.add k) = some (.int .u32 (x : Int)) := by
  have hlt := (List.getElem?_eq_some_iff.1 hk).1
  obtain ⟨a', ha, hc⟩ := h.2 (by omega)
  cases ha
  exact hc k _ (by rw [List.getElem?_map, hk]; rfl)

/-- A result that lies in memory. -/
theorem results_cell {P : Program} {fn : Func} {p : Tmp} {ty : TypeId} (h : fn.results = #[.cell p ty]) (tmps : Array Value) (w : World) (g : Nat) (T : TypeId) (cs : Array Value) (fr : Nat × Nat) (d : TypeDesc)
    (hp : tmps.getD p undef = .pointer (some ⟨g, 0, none⟩)) (hg : w.heap[g]? = some (.cells cs T fr))
    (hu : P.underlying ty = some d) (hd : (match d with | .struct _ | .array _ _ => true | _ => false) = true) (hi : (P.info? ty).map (·.size) = some cs.size) :
    (results fn tmps).run P w = .ok (.agg cs) w := by
  have hp' : tmps[p]?.getD undef = .pointer (some ⟨g, 0, none⟩) := by simpa using hp
  simp [results, h, hp', asAddr, run_loadVar_row w g T ty cs fr d hg hu hd hi]
theorem chg_setRow (w : World) (g : Nat) (cs : Array Value) : Chg (· = g) w (w.setRow g cs) :=
  ⟨rfl, rfl, rfl, by simp [World.setRow], fun k hk hs => by
    have hs' : ¬ g = k := fun e => hs e.symm
    simp [World.setRow, Array.getElem?_modify, hs']⟩
theorem MadeV.keeps {e : TypeId} {w w' : World} {s : MadeS} {m : MadeL} (h : MadeV w s m) (hk : Keeps e w w') (h1 : 54 ≠ e) (h2 : 5 ≠ e) (h3 : 25 ≠ e) (h4 : 57 ≠ e) (h5 : 45 ≠ e) (h6 : 3 ≠ e) : MadeV w' s m :=
  ⟨h.opt, h.ov, h.nums.keeps hk h1, h.nc, h.dirs.keeps hk h1, h.dc, h.bits.keeps hk h4, h.brec.mono (fun _ _ hr => hr.keeps hk h2 h1 h3), h.syms.keeps hk h5, h.srec, h.aux.keeps hk h6⟩
/-- What the law's own maker answers. -/
def MadePost (w : World) (e : Ending) (w' : World) : Prop :=
  ∃ s m, e = .returned (.agg (s.cells m).toArray) ∧ Hid (MadeV w' s m) ∧ Hid (MadeOk m) ∧ Hid (m.syms = []) ∧ Below w.heap.size w w'

set_option maxHeartbeats 40000000 in
theorem lawsPeOf_any (F : Nat) (hF : F < 4294967296) (PA : Option Addr) (ps : List Nat) (pc : Nat) (w : World) (hpc : ps.length ≤ pc) (hpb : Hid (∀ v ∈ ps, v < 4294967296)) (hp : Hid (RC w PA 1 ps.length (ps.map fun n : Nat => Value.int .u32 n))) :
    Calls Tryz.prog 4 #[.int .u32 F, .slice none 0 0, .slice PA ps.length pc, .slice none 0 0] w (MadePost w) := by
  go_enter Tryz.func4, Tryz.ntmps4
  go_wp2_with fail
  refine (machines_any _).mono ?_
  rintro e w1 ⟨⟨v, rfl, RM⟩, b1⟩
  obtain ⟨J, hJ, hJ8⟩ : ∃ J : Nat, (F : Int) / 256 % 8 = (J : Int) ∧ J < 8 := ⟨F / 256 % 8, by omega, by omega⟩
  obtain ⟨M0, hM0, hM1⟩ : ∃ M0 : Nat, ((machL.map fun x => Value.int .u16 x)[J]? = some (.int .u16 (M0 : Int))) ∧ (M0 : Int) ∈ machL := by
    have hl : machL.length = 8 := rfl
    have h1 : machL[J]? = some machL[J] := List.getElem?_eq_getElem (by omega)
    have h2 : machL[J] ∈ machL := List.getElem_mem _
    have h3 : (0 : Int) ≤ machL[J] := by
      revert h2
      generalize machL[J] = x
      intro h2
      simp only [machL, List.mem_cons, List.not_mem_nil, or_false] at h2
      omega
    obtain ⟨n, hn⟩ := Int.eq_ofNat_of_zero_le h3
    refine ⟨n, ?_, ?_⟩
    · rw [List.getElem?_map, h1, ← hn]; rfl
    · rw [← hn]; exact h2
  obtain ⟨a, rfl, hc⟩ := RM.2 (by decide)
  have q0 := hc J _ hM0
  have hm : M0 ≤ 50000 := by
    have h := hM1
    simp only [machL, List.mem_cons, List.not_mem_nil, or_false] at h
    omega
  replace hM1 := Lib.hid hM1
  clear hc RM hM0
  obtain ⟨T0, hT, hT0⟩ : ∃ T0 : Nat, (F : Int) * 7919 % 4294967296 = (T0 : Int) ∧ T0 < 4294967296 := ⟨F * 7919 % 4294967296, by omega, by omega⟩
  obtain ⟨G0, hG, hG0⟩ : ∃ G0 : Nat, IntKind.u16.wrap ((F : Int) / 8) = (G0 : Int) ∧ G0 < 65536 := ⟨F / 8 % 65536, by rw [IntKind.wrap_u16]; omega, by omega⟩
  go_upto_region 2 with fail
  have hz0 : w.heap.size + 1 ≤ w1.heap.size := by have := b1.size; simpa using this
  have L0 : Hid (LS w (w1.alloc (.cells #[.int .i64 0, .int .u16 (M0 : Int), .int .u32 (T0 : Int), .int .u16 (G0 : Int), .int .i64 0, .slice none 0 0, .slice none 0 0, .slice none 0 0, .slice none 0 0, .slice none 0 0] 30)) w.heap.size w1.heap.size [.int .i64 0, .int .u16 (M0 : Int), .int .u32 (T0 : Int), .int .u16 (G0 : Int), .int .i64 0] [] [] (.slice none 0 0) (.slice none 0 0) [] (.slice none 0 0) [] [] (.slice none 0 0) [] [] (.slice none 0 0)) := Lib.hid (by
    refine LS.start (heap_alloc_new w1 _) ⟨[.int .i64 0, .int .u16 0, .int .u32 0, .int .u16 0, .int .i64 0, .slice none 0 0, .slice none 0 0, .slice none 0 0, .slice none 0 0, .slice none 0 0], rfl, ?_⟩ ?_ (Nat.le_refl _) (by omega) (by omega) rfl
    · rw [heap_alloc_old _ _ (by omega), b1.block _ (by simp), heap_alloc_new]
    · exact (((Below.refl w.heap.size w).alloc (Nat.le_refl _) _).trans (b1.mono (by simp))).alloc (by omega) _)
  obtain ⟨w2, e2⟩ : ∃ w2, w1.alloc (.cells #[.int .i64 0, .int .u16 (M0 : Int), .int .u32 (T0 : Int), .int .u16 (G0 : Int), .int .i64 0, .slice none 0 0, .slice none 0 0, .slice none 0 0, .slice none 0 0, .slice none 0 0] 30) = w2 := ⟨_, rfl⟩
  rw [e2] at L0 ⊢
  obtain ⟨V9, hV9⟩ : ∃ V, w1.heap.size = V := ⟨_, rfl⟩
  rw [hV9] at L0 ⊢
  clear e2 q0 b1 hV9 hz0 hT hG hJ
  obtain ⟨S0, hS, hS0⟩ : ∃ S0 : Nat, (F : Int) / 2 % 64 = (S0 : Int) ∧ S0 < 64 := ⟨F / 2 % 64, by omega, by omega⟩
  go_upto_if 37 with fail
  go_cut [] from 35 to 43 (fun wx => ∃ ST : Nat, (ST = 0 ∨ (64 ≤ ST ∧ ST ≤ 127)) ∧ Hid (LS w wx w.heap.size V9 [.int .i64 (ST : Int), .int .u16 (M0 : Int), .int .u32 (T0 : Int), .int .u16 (G0 : Int), .int .i64 0] [] [] (.slice none 0 0) (.slice none 0 0) [] (.slice none 0 0) [] [] (.slice none 0 0) [] [] (.slice none 0 0)))
  case first =>
    --[A
    cases hb : (bits BinOp.and IntKind.u32 (F : Int) 1 != 0)
    · go_wp2_with fail
      go_meet
      case rel => exact ⟨0, .inl rfl, L0⟩
    · have c0 := World.cell?_of_row L0.out.v9 0 _ rfl
      have f0 := frozen_of_row _ V9 0 _ _ L0.out.v9
      go_wp2_with fail
      go_meet
      case rel => exact ⟨64 + S0, .inr ⟨by omega, by omega⟩, Lib.hid (L0.out.setH 0 (.int .i64 (64 + (S0 : Int))) (by omega))⟩
    --]A
  case rest =>
    obtain ⟨ST, hST, L1⟩ := hcut
    clear L0 hS hS0
    obtain ⟨J3, hJ3, hJ33⟩ : ∃ J : Nat, (F : Int) / 8192 % 3 = (J : Int) ∧ J < 3 := ⟨F / 8192 % 3, by omega, by omega⟩
    obtain ⟨K, hK, hK0⟩ : ∃ K : Nat, ([.int .i64 0, .int .i64 32, .int .i64 64] : List Value)[J3]? = some (.int .i64 (K : Int)) ∧ (K = 0 ∨ K = 32 ∨ K = 64) := by
      rcases (by omega : J3 = 0 ∨ J3 = 1 ∨ J3 = 2) with h | h | h <;> subst h
      · exact ⟨0, rfl, .inl rfl⟩
      · exact ⟨32, rfl, .inr (.inl rfl)⟩
      · exact ⟨64, rfl, .inr (.inr rfl)⟩
    have q3 : (wc.alloc (.cells #[.int .i64 0, .int .i64 32, .int .i64 64] 3)).cell? ⟨wc.heap.size, J3, none⟩ = some (.int .i64 (K : Int)) := World.cell?_of_row (l := [.int .i64 0, .int .i64 32, .int .i64 64]) (heap_alloc_new wc _) J3 _ hK
    have L2 := Lib.hid (L1.out.later ((Below.refl _ wc).alloc (Nat.le_refl _) (.cells #[.int .i64 0, .int .i64 32, .int .i64 64] 3)))
    have c4 := World.cell?_of_row L2.out.v9 4 _ rfl
    have f4 := frozen_of_row _ V9 4 _ _ L2.out.v9
    clear hK
    go_upto_region 5 with fail
    have L3 := Lib.hid (L2.out.setH 4 (.int .i64 (K : Int)) (by omega))
    obtain ⟨w3, e3⟩ : ∃ w3, (wc.alloc (.cells #[.int .i64 0, .int .i64 32, .int .i64 64] 3)).setCell ⟨V9, 4, none⟩ (.int .i64 (K : Int)) = w3 := ⟨_, rfl⟩
    rw [e3] at L3 ⊢
    clear e3 L2 L1 c4 f4 q3 hJ3
    have c44 := World.cell?_of_row L3.out.v9 4 (.int .i64 (K : Int)) rfl
    go_upto_if 53 with fail
    clear c44
    go_cut [10, 11, 12, 13, 14, 15] from 51 to 128 (fun c10 c11 c12 c13 c14 c15 wx => ∃ (nums dirs : List Nat) (vN vD : Value), Hid (LS w wx w.heap.size V9 [.int .i64 (ST : Int), .int .u16 (M0 : Int), .int .u32 (T0 : Int), .int .u16 (G0 : Int), .int .i64 (K : Int)] nums dirs vN vD [] (.slice none 0 0) [] [] (.slice none 0 0) [] [] (.slice none 0 0)) ∧ Hid (OptV K nums dirs))
    case first =>
      rcases hK0 with rfl | rfl | rfl
      · go_wp2_with fail
        go_meet
        case rel => exact ⟨[], [], _, _, L3, Lib.hid ⟨.inl ⟨rfl, rfl⟩, fun h => absurd rfl h, fun _ => rfl, by simp, by simp⟩⟩
      --<KIND
      ·
        --[K32
        have c44 := World.cell?_of_row L3.out.v9 4 (.int .i64 (32 : Int)) rfl
        go_wp2_with fail
        refine (peOptionalT_false _).mono ?_
        rintro e w4 ⟨⟨vw, cw, rfl, hcw, RW⟩, b4⟩
        have L4 := Lib.hid (L3.out.later b4)
        obtain ⟨gW, oW, rfl, hgW⟩ := RW.out.lt (by omega)
        clear b4 L3 c44
        obtain ⟨N0, hN, hN0⟩ : ∃ N0 : Nat, (F : Int) / 65536 % 17 = (N0 : Int) ∧ N0 ≤ 16 := ⟨F / 65536 % 17, by omega, by omega⟩
        obtain ⟨i0, hi, hz0, hz1, hz2⟩ := info_parts Tryz.info64
        go_upto_region 8 with fail
        clear hN
        go_wp2_with fail
        go_loopw [12, 13, 14, 64] (fun c12 c13 c14 i wr => ∃ (k : Nat) (l : List Nat) (vN : Value), k ≤ 30 ∧ i = .int .i64 k ∧ Hid (l.length = k) ∧ Hid (∀ v ∈ l, v ≤ 18446744073709551615) ∧ Hid (RT wr 3 (some ⟨gW, oW, none⟩) 1 30 (optW32.map iv)) ∧
          Hid (LS w wr w.heap.size V9 [.int .i64 (ST : Int), .int .u16 (M0 : Int), .int .u32 (T0 : Int), .int .u16 (G0 : Int), .int .i64 (32 : Int)] l [] vN (.slice none 0 0) [] (.slice none 0 0) [] [] (.slice none 0 0) [] [] (.slice none 0 0))) (fun _ _ _ i _ => 30 - (intOf i).toNat)
        case atStart => exact ⟨0, [], .slice none 0 0, by omega, rfl, Lib.hid rfl, Lib.hid (by simp), RW, L4⟩
        case round =>
          obtain ⟨k, l, vN, hk, rfl, hl, hlb, hW, hL⟩ := hrel
          by_cases hkn : k < 30
          · obtain ⟨x, hx, hxs⟩ : ∃ x : Int, (optW32.map iv)[k]? = some (.int .i64 x) ∧ (x = 1 ∨ x = 2 ∨ x = 4 ∨ x = 8) := by
              have hlen : optW32.length = 30 := rfl
              have h1 : optW32[k]? = some optW32[k] := List.getElem?_eq_getElem (by omega)
              have h2 : ∀ x ∈ optW32, x = 1 ∨ x = 2 ∨ x = 4 ∨ x = 8 := by decide
              exact ⟨optW32[k], by rw [List.getElem?_map, h1]; rfl, h2 _ (List.getElem_mem _)⟩
            obtain ⟨g', o', e', q0⟩ := hW.out.at hx
            simp only [Option.some.injEq, Addr.mk.injEq, and_true] at e'
            obtain ⟨rfl, rfl⟩ := e'
            obtain ⟨vA, vc, rfl, -, hvc, -⟩ := RT.of_owns hL.out.n
            have hlk : l.length ≤ 30 := by have := hl.out; omega
            have hk256 : (k : Int) % 256 = (k : Int) := by omega
            have hk655 : (k : Int) % 65536 = (k : Int) := by omega
            go_upto_if 83 with fail
            go_cut [14] from 82 to 88 (fun c14 wx => c14 = .int .u64 (k : Int) ∧ wx = wr)
            case first =>
              rcases hxs with rfl | rfl | rfl | rfl
              · go_wp2_with fail
                go_meet
                case rel => exact ⟨by first | rfl | rw [hk256] | rw [hk655], rfl⟩
              · go_wp2_with fail
                go_meet
                case rel => exact ⟨by first | rfl | rw [hk256] | rw [hk655], rfl⟩
              · go_wp2_with fail
                go_meet
                case rel => exact ⟨by first | rfl | rw [hk256] | rw [hk655], rfl⟩
              · go_wp2_with fail
                go_meet
                case rel => exact ⟨by first | rfl | rw [hk256] | rw [hk655], rfl⟩
            case rest =>
              obtain ⟨rfl, rfl⟩ := hcut
              clear hk256 hk655 q0 hx hxs
              have L5 := Lib.hid (hL.out.later ((Below.refl _ wc).alloc (Nat.le_refl _) (.cells #[.int .u64 (k : Int)] 54)))
              have hW5 := Lib.hid (hW.out.later ((Below.refl _ wc).alloc (Nat.le_refl _) (.cells #[.int .u64 (k : Int)] 54)))
              have c5 := World.cell?_of_row hL.out.v9 5 (.slice vA l.length vc) rfl
              have hsz5 := L5.out.bw.size
              clear hL hW
              go_wp2_with (at_builtin; refine Stop.mk ?_)
              refine Stop.go ?_
              refine wpList_append_any rfl (.tmp 90) (.tmp 92) 25 rfl w.heap.size 54 i0 (.int .u64 0) 1 8 Tryz.underlying25 hi hz0 hz1 hz2 rfl (by omega) _ l.length (l.map uv) rfl L5.out.n (some ⟨wc.heap.size, 0, none⟩) 1 1 [.int .u64 (k : Int)] rfl (rc_newN rfl rfl) (List.all_eq_true.1 rfl) (by simp only [maxLen]; omega) (by omega) hsz5 ?_
              intro vN' w6 own6 g6 at6
              obtain ⟨l', el'⟩ : ∃ l', l ++ [k] = l' := ⟨_, rfl⟩
              have own6' : w6.ownsRow w.heap.size 54 1 vN' l'.length (l'.map uv) := by
                rw [← el', List.length_append, List.map_append]
                exact own6
              have K6 := Keeps.of_grown L5.out.n g6
              have g9 := K6.block _ _ _ _ L5.out.v9 (by decide)
              have c6 := World.cell?_of_row g9 5 (.slice vA l.length vc) rfl
              have f6 := frozen_of_row _ V9 5 _ _ g9
              have hW6 := hW5.out.keeps K6 (by decide)
              have hW7 := Lib.hid (hW6.keeps (keeps_set (i := 5) (x := vN') g9) (by decide))
              have L6 := Lib.hid (L5.out.pushN own6' g6 at6)
              obtain ⟨nA, nc, rfl, -⟩ := RT.of_owns own6'
              have hl' : Hid (l'.length = k + 1) := Lib.hid (by rw [← el', List.length_append, hl.out]; rfl)
              have hlb' : Hid (∀ v ∈ l', v ≤ 18446744073709551615) := Lib.hid (fun v hv => by
                rw [← el'] at hv
                rcases List.mem_append.1 hv with h | h
                · exact hlb.out v h
                · simp only [List.mem_cons, List.not_mem_nil, or_false] at h; omega)
              clear own6 own6' el' g6 at6 K6 g9 hW6 hW5 L5 c5 hl hlb
              go_wp2
              go_roundw
              case rel => exact ⟨k + 1, _, _, by omega, by go_num, hl', hlb', hW7, L6⟩
              case measure => simp [intOf]; omega
          · obtain rfl : k = 30 := by omega
            clear hW
            obtain ⟨gN, nc, rfl, hnc, hbN, -, -⟩ := owns_cellsN hL.out.n (by have := hl.out; omega)
            have hi29 : 29 < l.length := by have := hl.out; omega
            rw [hl.out] at hL hnc
            have hw29 : IntKind.i64.wrap 29 = 29 := by decide
            have hw30 : IntKind.i64.wrap (30 - 1) = 29 := by decide
            have hm0 : Hid (l.length = 30) := hl
            have hN64 : IntKind.u64.wrap (N0 : Int) = (N0 : Int) := by rw [IntKind.wrap_u64]; omega
            have Ld := Lib.hid (hL.out.later ((Below.refl _ wr).drew))
            obtain ⟨⟨x0, s0⟩, f0⟩ := Ld.out.cellN hm0 0 (by omega)
            obtain ⟨⟨x9, s9⟩, f9⟩ := Ld.out.cellN hm0 29 (by omega)
            have c5 := Lib.hid (World.cell?_of_row Ld.out.v9 5 _ rfl)
            have P1 : Hid (LS w ((wr.setCell ⟨gN, 0, none⟩ (.int .u64 267)).drew) w.heap.size V9 [.int .i64 (ST : Int), .int .u16 (M0 : Int), .int .u32 (T0 : Int), .int .u16 (G0 : Int), .int .i64 (32 : Int)] (l.set 0 267) [] (.slice (some ⟨gN, 0, none⟩) 30 nc) (.slice none 0 0) [] (.slice none 0 0) [] [] (.slice none 0 0) [] [] (.slice none 0 0)) := Lib.hid (Ld.out.poke hm0 0 267 (by omega))
            have hm1 : Hid ((l.set 0 267).length = 30) := Lib.hid (by simpa using hl.out)
            have P2 : Hid (LS w (((wr.setCell ⟨gN, 0, none⟩ (.int .u64 267)).setCell ⟨gN, 29, none⟩ (.int .u64 (N0 : Int))).drew) w.heap.size V9 [.int .i64 (ST : Int), .int .u16 (M0 : Int), .int .u32 (T0 : Int), .int .u16 (G0 : Int), .int .i64 (32 : Int)] ((l.set 0 267).set 29 N0) [] (.slice (some ⟨gN, 0, none⟩) 30 nc) (.slice none 0 0) [] (.slice none 0 0) [] [] (.slice none 0 0) [] [] (.slice none 0 0)) := Lib.hid (P1.out.poke hm1 29 N0 (by omega))
            have hm2 : Hid (((l.set 0 267).set 29 N0).length = 30) := Lib.hid (by simpa using hl.out)
            obtain ⟨⟨x91, s91⟩, f91⟩ := P1.out.cellN hm1 29 (by omega)
            have c51 := Lib.hid (World.cell?_of_row P1.out.v9 5 _ rfl)
            have c52 := Lib.hid (World.cell?_of_row P2.out.v9 5 _ rfl)
            go_wp2_with fail
            go_region_held3 (fun w' => w'.cell? ⟨V9, 5, none⟩ = some (.slice (some ⟨gN, 0, none⟩) 30 nc))
              (first | with_reducible exact c5.out | with_reducible exact c51.out | with_reducible exact c52.out | go_keep)
              (fail)
            obtain ⟨w7, e7⟩ : ∃ w', ((wr.setCell ⟨gN, 0, none⟩ (.int .u64 267)).setCell ⟨gN, 29, none⟩ (.int .u64 (N0 : Int))).drew = w' := ⟨_, rfl⟩
            rw [e7] at P2 c52 ⊢
            obtain ⟨l2, el2⟩ : ∃ l2, (l.set 0 267).set 29 N0 = l2 := ⟨_, rfl⟩
            rw [el2] at P2 hm2
            have hA0 : Hid (l2[0]? = some 267) := Lib.hid (by rw [← el2, List.getElem?_set_ne (by decide), List.getElem?_set_self (by have := hl.out; omega)])
            have hA9 : Hid (l2[29]? = some N0) := Lib.hid (by rw [← el2, List.getElem?_set_self (by rw [List.length_set]; have := hl.out; omega)])
            have hAb : Hid (∀ v ∈ l2, v ≤ 18446744073709551615) := Lib.hid (fun v hv => by
              rw [← el2] at hv
              rcases List.mem_or_eq_of_mem_set hv with h | h
              · rcases List.mem_or_eq_of_mem_set h with h | h
                · exact hlb.out v h
                · omega
              · omega)
            clear hw29 hw30 e7 el2 Ld P1 hL c5 c51 s0 f0 s9 f9 s91 f91 hlb hm0 hm1
            have c4 := World.cell?_of_row P2.out.v9 4 (.int .i64 (32 : Int)) rfl
            go_upto_region 21 with fail
            clear c4 c52
            go_wp2_with fail
            go_loopw [15, 115] (fun c15 i wr => ∃ (k : Nat) (d : List Nat) (vD : Value), k ≤ 2 * N0 ∧ i = .int .i64 k ∧ Hid (d.length = k) ∧ Hid (∀ v ∈ d, v ≤ 18446744073709551615) ∧
              Hid (LS w wr w.heap.size V9 [.int .i64 (ST : Int), .int .u16 (M0 : Int), .int .u32 (T0 : Int), .int .u16 (G0 : Int), .int .i64 (32 : Int)] l2 d (.slice (some ⟨gN, 0, none⟩) 30 nc) vD [] (.slice none 0 0) [] [] (.slice none 0 0) [] [] (.slice none 0 0))) (fun _ i _ => 2 * N0 - (intOf i).toNat)
            case atStart => exact ⟨0, [], .slice none 0 0, by omega, rfl, Lib.hid rfl, Lib.hid (by simp), P2⟩
            case round =>
              obtain ⟨k, d, vD, hk, rfl, hd', hdb, hL⟩ := hrel
              by_cases hkn : k < 2 * N0
              · obtain ⟨dA, dc, rfl, -, hdc, -⟩ := RT.of_owns hL.out.d
                have hdk : d.length ≤ 32 := by have := hd'.out; omega
                obtain ⟨M2, hM2, hM3⟩ : ∃ M2 : Nat, (k : Int).tmod 20 = (M2 : Int) ∧ M2 < 20 := ⟨k % 20, by rw [Int.tmod_eq_emod_of_nonneg (by omega)]; omega, by omega⟩
                obtain ⟨X2, hX2, hX3⟩ : ∃ X2 : Nat, (F : Int) / 2 ^ M2 = (X2 : Int) ∧ X2 < 4294967296 := ⟨F / 2 ^ M2, by simp, Nat.lt_of_le_of_lt (Nat.div_le_self _ _) hF⟩
                have c6 := World.cell?_of_row hL.out.v9 6 (.slice dA d.length dc) rfl
                have hwX : IntKind.u64.wrap (X2 : Int) = (X2 : Int) := by rw [IntKind.wrap_u64]; omega
                go_upto_region 24 with fail
                have L5 := Lib.hid (hL.out.later (((Below.refl _ wr).alloc (Nat.le_refl _) (.cells #[.int .u64 (X2 : Int)] 54)).drew))
                have RC5 : Hid (RC ((wr.alloc (.cells #[.int .u64 (X2 : Int)] 54)).drew) (some ⟨wr.heap.size, 0, none⟩) 1 1 [.int .u64 (X2 : Int)]) := Lib.hid (rc_later (rc_newN rfl rfl) ((Below.refl _ _).drew))
                have c65 := World.cell?_of_row L5.out.v9 6 (.slice dA d.length dc) rfl
                have hsz5 : w.heap.size ≤ ((wr.alloc (.cells #[.int .u64 (X2 : Int)] 54)).drew).heap.size := L5.out.bw.size
                go_region_law (first
                  | (refine step_append_any (by rfl) (.tmp 119) (.tmp 125) 25 (by rfl) w.heap.size 54 i0 (.int .u64 0) 1 8 Tryz.underlying25 hi hz0 hz1 hz2 rfl (by omega) _ d.length (d.map uv) (by rfl) L5.out.d (some ⟨wr.heap.size, 0, none⟩) 1 1 [.int .u64 (X2 : Int)] (by rfl) RC5.out (List.all_eq_true.1 rfl) (by simp only [maxLen]; omega) (by omega) hsz5 ?_; intro vD' w6 own6 g6 at6; obtain ⟨nA2, nc2, rfl, -⟩ := RT.of_owns own6; have K6 := Keeps.of_grown L5.out.d g6; have g9 := K6.block _ _ _ _ L5.out.v9 (by decide); have c66 := World.cell?_of_row g9 6 (.slice dA d.length dc) rfl; have f66 := frozen_of_row _ V9 6 _ _ g9)
                  | fail)
                all_goals
                  obtain ⟨d', ed'⟩ : ∃ d', d ++ [X2] = d' := ⟨_, rfl⟩
                  have own6' : w6.ownsRow w.heap.size 54 1 (.slice nA2 (d.length + 1) nc2) d'.length (d'.map uv) := by
                    rw [← ed', List.length_append, List.map_append]
                    exact own6
                  have L6 := Lib.hid (L5.out.pushD own6' g6 at6)
                  have hd'' : Hid (d'.length = k + 1) := Lib.hid (by rw [← ed', List.length_append, hd'.out]; rfl)
                  have hdb' : Hid (∀ v ∈ d', v ≤ 18446744073709551615) := Lib.hid (fun v hv => by
                    rw [← ed'] at hv
                    rcases List.mem_append.1 hv with h | h
                    · exact hdb.out v h
                    · simp only [List.mem_cons, List.not_mem_nil, or_false] at h; omega)
                  clear own6 own6' ed' g6 at6 K6 g9 L5 RC5 c65 c66 f66 hd' hdb hwX hX2 hM2 hL c6
                  go_wp2
                  go_roundw
                  case rel => exact ⟨k + 1, d', _, by omega, by go_num, hd'', hdb', L6⟩
                  case measure => simp [intOf]; omega
              · obtain rfl : k = 2 * N0 := by omega
                go_wp2_with fail
                go_meet
                case rel => exact ⟨l2, d, _, vD, hL, Lib.hid ⟨.inr (.inl ⟨rfl, hm2.out, hA0.out⟩), fun _ => ⟨N0, hN0, hd'.out, by rw [hm2.out]; exact hA9.out⟩, fun h => absurd h (by decide), hAb.out, hdb.out⟩⟩
        --]K32
      ·
        --[K64
        have c44 := World.cell?_of_row L3.out.v9 4 (.int .i64 (64 : Int)) rfl
        go_wp2_with fail
        refine (peOptionalT_true _).mono ?_
        rintro e w4 ⟨⟨vw, cw, rfl, hcw, RW⟩, b4⟩
        have L4 := Lib.hid (L3.out.later b4)
        obtain ⟨gW, oW, rfl, hgW⟩ := RW.out.lt (by omega)
        clear b4 L3 c44
        obtain ⟨N0, hN, hN0⟩ : ∃ N0 : Nat, (F : Int) / 65536 % 17 = (N0 : Int) ∧ N0 ≤ 16 := ⟨F / 65536 % 17, by omega, by omega⟩
        obtain ⟨i0, hi, hz0, hz1, hz2⟩ := info_parts Tryz.info64
        go_upto_region 8 with fail
        clear hN
        go_wp2_with fail
        go_loopw [12, 13, 14, 64] (fun c12 c13 c14 i wr => ∃ (k : Nat) (l : List Nat) (vN : Value), k ≤ 29 ∧ i = .int .i64 k ∧ Hid (l.length = k) ∧ Hid (∀ v ∈ l, v ≤ 18446744073709551615) ∧ Hid (RT wr 3 (some ⟨gW, oW, none⟩) 1 29 (optW64.map iv)) ∧
          Hid (LS w wr w.heap.size V9 [.int .i64 (ST : Int), .int .u16 (M0 : Int), .int .u32 (T0 : Int), .int .u16 (G0 : Int), .int .i64 (64 : Int)] l [] vN (.slice none 0 0) [] (.slice none 0 0) [] [] (.slice none 0 0) [] [] (.slice none 0 0))) (fun _ _ _ i _ => 29 - (intOf i).toNat)
        case atStart => exact ⟨0, [], .slice none 0 0, by omega, rfl, Lib.hid rfl, Lib.hid (by simp), RW, L4⟩
        case round =>
          obtain ⟨k, l, vN, hk, rfl, hl, hlb, hW, hL⟩ := hrel
          by_cases hkn : k < 29
          · obtain ⟨x, hx, hxs⟩ : ∃ x : Int, (optW64.map iv)[k]? = some (.int .i64 x) ∧ (x = 1 ∨ x = 2 ∨ x = 4 ∨ x = 8) := by
              have hlen : optW64.length = 29 := rfl
              have h1 : optW64[k]? = some optW64[k] := List.getElem?_eq_getElem (by omega)
              have h2 : ∀ x ∈ optW64, x = 1 ∨ x = 2 ∨ x = 4 ∨ x = 8 := by decide
              exact ⟨optW64[k], by rw [List.getElem?_map, h1]; rfl, h2 _ (List.getElem_mem _)⟩
            obtain ⟨g', o', e', q0⟩ := hW.out.at hx
            simp only [Option.some.injEq, Addr.mk.injEq, and_true] at e'
            obtain ⟨rfl, rfl⟩ := e'
            obtain ⟨vA, vc, rfl, -, hvc, -⟩ := RT.of_owns hL.out.n
            have hlk : l.length ≤ 30 := by have := hl.out; omega
            have hk256 : (k : Int) % 256 = (k : Int) := by omega
            have hk655 : (k : Int) % 65536 = (k : Int) := by omega
            go_upto_if 83 with fail
            go_cut [14] from 82 to 88 (fun c14 wx => c14 = .int .u64 (k : Int) ∧ wx = wr)
            case first =>
              rcases hxs with rfl | rfl | rfl | rfl
              · go_wp2_with fail
                go_meet
                case rel => exact ⟨by first | rfl | rw [hk256] | rw [hk655], rfl⟩
              · go_wp2_with fail
                go_meet
                case rel => exact ⟨by first | rfl | rw [hk256] | rw [hk655], rfl⟩
              · go_wp2_with fail
                go_meet
                case rel => exact ⟨by first | rfl | rw [hk256] | rw [hk655], rfl⟩
              · go_wp2_with fail
                go_meet
                case rel => exact ⟨by first | rfl | rw [hk256] | rw [hk655], rfl⟩
            case rest =>
              obtain ⟨rfl, rfl⟩ := hcut
              clear hk256 hk655 q0 hx hxs
              have L5 := Lib.hid (hL.out.later ((Below.refl _ wc).alloc (Nat.le_refl _) (.cells #[.int .u64 (k : Int)] 54)))
              have hW5 := Lib.hid (hW.out.later ((Below.refl _ wc).alloc (Nat.le_refl _) (.cells #[.int .u64 (k : Int)] 54)))
              have c5 := World.cell?_of_row hL.out.v9 5 (.slice vA l.length vc) rfl
              have hsz5 := L5.out.bw.size
              clear hL hW
              go_wp2_with (at_builtin; refine Stop.mk ?_)
              refine Stop.go ?_
              refine wpList_append_any rfl (.tmp 90) (.tmp 92) 25 rfl w.heap.size 54 i0 (.int .u64 0) 1 8 Tryz.underlying25 hi hz0 hz1 hz2 rfl (by omega) _ l.length (l.map uv) rfl L5.out.n (some ⟨wc.heap.size, 0, none⟩) 1 1 [.int .u64 (k : Int)] rfl (rc_newN rfl rfl) (List.all_eq_true.1 rfl) (by simp only [maxLen]; omega) (by omega) hsz5 ?_
              intro vN' w6 own6 g6 at6
              obtain ⟨l', el'⟩ : ∃ l', l ++ [k] = l' := ⟨_, rfl⟩
              have own6' : w6.ownsRow w.heap.size 54 1 vN' l'.length (l'.map uv) := by
                rw [← el', List.length_append, List.map_append]
                exact own6
              have K6 := Keeps.of_grown L5.out.n g6
              have g9 := K6.block _ _ _ _ L5.out.v9 (by decide)
              have c6 := World.cell?_of_row g9 5 (.slice vA l.length vc) rfl
              have f6 := frozen_of_row _ V9 5 _ _ g9
              have hW6 := hW5.out.keeps K6 (by decide)
              have hW7 := Lib.hid (hW6.keeps (keeps_set (i := 5) (x := vN') g9) (by decide))
              have L6 := Lib.hid (L5.out.pushN own6' g6 at6)
              obtain ⟨nA, nc, rfl, -⟩ := RT.of_owns own6'
              have hl' : Hid (l'.length = k + 1) := Lib.hid (by rw [← el', List.length_append, hl.out]; rfl)
              have hlb' : Hid (∀ v ∈ l', v ≤ 18446744073709551615) := Lib.hid (fun v hv => by
                rw [← el'] at hv
                rcases List.mem_append.1 hv with h | h
                · exact hlb.out v h
                · simp only [List.mem_cons, List.not_mem_nil, or_false] at h; omega)
              clear own6 own6' el' g6 at6 K6 g9 hW6 hW5 L5 c5 hl hlb
              go_wp2
              go_roundw
              case rel => exact ⟨k + 1, _, _, by omega, by go_num, hl', hlb', hW7, L6⟩
              case measure => simp [intOf]; omega
          · obtain rfl : k = 29 := by omega
            clear hW
            obtain ⟨gN, nc, rfl, hnc, hbN, -, -⟩ := owns_cellsN hL.out.n (by have := hl.out; omega)
            have hi29 : 28 < l.length := by have := hl.out; omega
            rw [hl.out] at hL hnc
            have hw29 : IntKind.i64.wrap 28 = 28 := by decide
            have hw30 : IntKind.i64.wrap (29 - 1) = 28 := by decide
            have hm0 : Hid (l.length = 29) := hl
            have hN64 : IntKind.u64.wrap (N0 : Int) = (N0 : Int) := by rw [IntKind.wrap_u64]; omega
            have Ld := Lib.hid (hL.out.later ((Below.refl _ wr).drew))
            obtain ⟨⟨x0, s0⟩, f0⟩ := Ld.out.cellN hm0 0 (by omega)
            obtain ⟨⟨x9, s9⟩, f9⟩ := Ld.out.cellN hm0 28 (by omega)
            have c5 := Lib.hid (World.cell?_of_row Ld.out.v9 5 _ rfl)
            have P1 : Hid (LS w ((wr.setCell ⟨gN, 0, none⟩ (.int .u64 267)).drew) w.heap.size V9 [.int .i64 (ST : Int), .int .u16 (M0 : Int), .int .u32 (T0 : Int), .int .u16 (G0 : Int), .int .i64 (64 : Int)] (l.set 0 267) [] (.slice (some ⟨gN, 0, none⟩) 29 nc) (.slice none 0 0) [] (.slice none 0 0) [] [] (.slice none 0 0) [] [] (.slice none 0 0)) := Lib.hid (Ld.out.poke hm0 0 267 (by omega))
            have hm1 : Hid ((l.set 0 267).length = 29) := Lib.hid (by simpa using hl.out)
            have P2 : Hid (LS w (((wr.setCell ⟨gN, 0, none⟩ (.int .u64 267)).setCell ⟨gN, 28, none⟩ (.int .u64 (N0 : Int))).drew) w.heap.size V9 [.int .i64 (ST : Int), .int .u16 (M0 : Int), .int .u32 (T0 : Int), .int .u16 (G0 : Int), .int .i64 (64 : Int)] ((l.set 0 267).set 28 N0) [] (.slice (some ⟨gN, 0, none⟩) 29 nc) (.slice none 0 0) [] (.slice none 0 0) [] [] (.slice none 0 0) [] [] (.slice none 0 0)) := Lib.hid (P1.out.poke hm1 28 N0 (by omega))
            have hm2 : Hid (((l.set 0 267).set 28 N0).length = 29) := Lib.hid (by simpa using hl.out)
            obtain ⟨⟨x91, s91⟩, f91⟩ := P1.out.cellN hm1 28 (by omega)
            have c51 := Lib.hid (World.cell?_of_row P1.out.v9 5 _ rfl)
            have c52 := Lib.hid (World.cell?_of_row P2.out.v9 5 _ rfl)
            go_wp2_with fail
            go_region_held3 (fun w' => w'.cell? ⟨V9, 5, none⟩ = some (.slice (some ⟨gN, 0, none⟩) 29 nc))
              (first | with_reducible exact c5.out | with_reducible exact c51.out | with_reducible exact c52.out | go_keep)
              (fail)
            obtain ⟨w7, e7⟩ : ∃ w', ((wr.setCell ⟨gN, 0, none⟩ (.int .u64 267)).setCell ⟨gN, 28, none⟩ (.int .u64 (N0 : Int))).drew = w' := ⟨_, rfl⟩
            rw [e7] at P2 c52 ⊢
            obtain ⟨l2, el2⟩ : ∃ l2, (l.set 0 267).set 28 N0 = l2 := ⟨_, rfl⟩
            rw [el2] at P2 hm2
            have hA0 : Hid (l2[0]? = some 267) := Lib.hid (by rw [← el2, List.getElem?_set_ne (by decide), List.getElem?_set_self (by have := hl.out; omega)])
            have hA9 : Hid (l2[28]? = some N0) := Lib.hid (by rw [← el2, List.getElem?_set_self (by rw [List.length_set]; have := hl.out; omega)])
            have hAb : Hid (∀ v ∈ l2, v ≤ 18446744073709551615) := Lib.hid (fun v hv => by
              rw [← el2] at hv
              rcases List.mem_or_eq_of_mem_set hv with h | h
              · rcases List.mem_or_eq_of_mem_set h with h | h
                · exact hlb.out v h
                · omega
              · omega)
            clear hw29 hw30 e7 el2 Ld P1 hL c5 c51 s0 f0 s9 f9 s91 f91 hlb hm0 hm1
            have c4 := World.cell?_of_row P2.out.v9 4 (.int .i64 (64 : Int)) rfl
            have c5 := World.cell?_of_row P2.out.v9 5 (.slice (some ⟨gN, 0, none⟩) 29 nc) rfl
            obtain ⟨⟨x0, s0⟩, f0⟩ := P2.out.cellN hm2 0 (by omega)
            go_upto_region 21 with fail
            have P3 : Hid (LS w (w7.setCell ⟨gN, 0, none⟩ (.int .u64 523)) w.heap.size V9 [.int .i64 (ST : Int), .int .u16 (M0 : Int), .int .u32 (T0 : Int), .int .u16 (G0 : Int), .int .i64 (64 : Int)] (l2.set 0 523) [] (.slice (some ⟨gN, 0, none⟩) 29 nc) (.slice none 0 0) [] (.slice none 0 0) [] [] (.slice none 0 0) [] [] (.slice none 0 0)) := Lib.hid (P2.out.poke hm2 0 523 (by omega))
            have hm3 : Hid ((l2.set 0 523).length = 29) := Lib.hid (by simpa using hm2.out)
            obtain ⟨l3, el3⟩ : ∃ l3, l2.set 0 523 = l3 := ⟨_, rfl⟩
            rw [el3] at P3 hm3
            have hB0 : Hid (l3[0]? = some 523) := Lib.hid (by rw [← el3, List.getElem?_set_self (by have := hm2.out; omega)])
            have hB9 : Hid (l3[28]? = some N0) := Lib.hid (by rw [← el3, List.getElem?_set_ne (by decide)]; exact hA9.out)
            have hBb : Hid (∀ v ∈ l3, v ≤ 18446744073709551615) := Lib.hid (fun v hv => by
              rw [← el3] at hv
              rcases List.mem_or_eq_of_mem_set hv with h | h
              · exact hAb.out v h
              · omega)
            obtain ⟨w8, e8⟩ : ∃ w', w7.setCell ⟨gN, 0, none⟩ (.int .u64 523) = w' := ⟨_, rfl⟩
            rw [e8] at P3 ⊢
            clear e8 el3 P2 c5 s0 f0 hA0 hA9 hAb c4 c52 hm2
            go_wp2_with fail
            go_loopw [15, 115] (fun c15 i wr => ∃ (k : Nat) (d : List Nat) (vD : Value), k ≤ 2 * N0 ∧ i = .int .i64 k ∧ Hid (d.length = k) ∧ Hid (∀ v ∈ d, v ≤ 18446744073709551615) ∧
              Hid (LS w wr w.heap.size V9 [.int .i64 (ST : Int), .int .u16 (M0 : Int), .int .u32 (T0 : Int), .int .u16 (G0 : Int), .int .i64 (64 : Int)] l3 d (.slice (some ⟨gN, 0, none⟩) 29 nc) vD [] (.slice none 0 0) [] [] (.slice none 0 0) [] [] (.slice none 0 0))) (fun _ i _ => 2 * N0 - (intOf i).toNat)
            case atStart => exact ⟨0, [], .slice none 0 0, by omega, rfl, Lib.hid rfl, Lib.hid (by simp), P3⟩
            case round =>
              obtain ⟨k, d, vD, hk, rfl, hd', hdb, hL⟩ := hrel
              by_cases hkn : k < 2 * N0
              · obtain ⟨dA, dc, rfl, -, hdc, -⟩ := RT.of_owns hL.out.d
                have hdk : d.length ≤ 32 := by have := hd'.out; omega
                obtain ⟨M2, hM2, hM3⟩ : ∃ M2 : Nat, (k : Int).tmod 20 = (M2 : Int) ∧ M2 < 20 := ⟨k % 20, by rw [Int.tmod_eq_emod_of_nonneg (by omega)]; omega, by omega⟩
                obtain ⟨X2, hX2, hX3⟩ : ∃ X2 : Nat, (F : Int) / 2 ^ M2 = (X2 : Int) ∧ X2 < 4294967296 := ⟨F / 2 ^ M2, by simp, Nat.lt_of_le_of_lt (Nat.div_le_self _ _) hF⟩
                have c6 := World.cell?_of_row hL.out.v9 6 (.slice dA d.length dc) rfl
                have hwX : IntKind.u64.wrap (X2 : Int) = (X2 : Int) := by rw [IntKind.wrap_u64]; omega
                go_upto_region 24 with fail
                have L5 := Lib.hid (hL.out.later (((Below.refl _ wr).alloc (Nat.le_refl _) (.cells #[.int .u64 (X2 : Int)] 54)).drew))
                have RC5 : Hid (RC ((wr.alloc (.cells #[.int .u64 (X2 : Int)] 54)).drew) (some ⟨wr.heap.size, 0, none⟩) 1 1 [.int .u64 (X2 : Int)]) := Lib.hid (rc_later (rc_newN rfl rfl) ((Below.refl _ _).drew))
                have c65 := World.cell?_of_row L5.out.v9 6 (.slice dA d.length dc) rfl
                have hsz5 : w.heap.size ≤ ((wr.alloc (.cells #[.int .u64 (X2 : Int)] 54)).drew).heap.size := L5.out.bw.size
                go_region_law (first
                  | (refine step_append_any (by rfl) (.tmp 119) (.tmp 125) 25 (by rfl) w.heap.size 54 i0 (.int .u64 0) 1 8 Tryz.underlying25 hi hz0 hz1 hz2 rfl (by omega) _ d.length (d.map uv) (by rfl) L5.out.d (some ⟨wr.heap.size, 0, none⟩) 1 1 [.int .u64 (X2 : Int)] (by rfl) RC5.out (List.all_eq_true.1 rfl) (by simp only [maxLen]; omega) (by omega) hsz5 ?_; intro vD' w6 own6 g6 at6; obtain ⟨nA2, nc2, rfl, -⟩ := RT.of_owns own6; have K6 := Keeps.of_grown L5.out.d g6; have g9 := K6.block _ _ _ _ L5.out.v9 (by decide); have c66 := World.cell?_of_row g9 6 (.slice dA d.length dc) rfl; have f66 := frozen_of_row _ V9 6 _ _ g9)
                  | fail)
                all_goals
                  obtain ⟨d', ed'⟩ : ∃ d', d ++ [X2] = d' := ⟨_, rfl⟩
                  have own6' : w6.ownsRow w.heap.size 54 1 (.slice nA2 (d.length + 1) nc2) d'.length (d'.map uv) := by
                    rw [← ed', List.length_append, List.map_append]
                    exact own6
                  have L6 := Lib.hid (L5.out.pushD own6' g6 at6)
                  have hd'' : Hid (d'.length = k + 1) := Lib.hid (by rw [← ed', List.length_append, hd'.out]; rfl)
                  have hdb' : Hid (∀ v ∈ d', v ≤ 18446744073709551615) := Lib.hid (fun v hv => by
                    rw [← ed'] at hv
                    rcases List.mem_append.1 hv with h | h
                    · exact hdb.out v h
                    · simp only [List.mem_cons, List.not_mem_nil, or_false] at h; omega)
                  clear own6 own6' ed' g6 at6 K6 g9 L5 RC5 c65 c66 f66 hd' hdb hwX hX2 hM2 hL c6
                  go_wp2
                  go_roundw
                  case rel => exact ⟨k + 1, d', _, by omega, by go_num, hd'', hdb', L6⟩
                  case measure => simp [intOf]; omega
              · obtain rfl : k = 2 * N0 := by omega
                go_wp2_with fail
                go_meet
                case rel => exact ⟨l3, d, _, vD, hL, Lib.hid ⟨.inr (.inr ⟨rfl, hm3.out, hB0.out⟩), fun _ => ⟨N0, hN0, hd'.out, by rw [hm3.out]; exact hB9.out⟩, fun h => absurd h (by decide), hBb.out, hdb.out⟩⟩
        --]K64
      --KIND>
    case rest =>
      obtain ⟨nums, dirs, vN, vD, L4, OV⟩ := hcut
      clear hK0 hJ33
      obtain ⟨NB, hNB, hNB4, hNBl⟩ : ∃ NB : Nat, min (ps.length : Int) 4 = (NB : Int) ∧ NB ≤ 4 ∧ NB ≤ ps.length := ⟨min ps.length 4, by omega, by omega, by omega⟩
      have hsl : ∀ W, (Instr.slice 23 (.slice PA ps.length pc) none (some (.int .i64 (NB : Int))) none).run Tryz.prog W = .ok (.slice PA NB pc) W := fun W => run_slice_to Tryz.underlying23 (info_parts Tryz.infoU32).choose_spec.1 PA ps.length pc NB (by omega) W
      go_upto_region 26 with fail
      go_wp2_with fail
      go_loopw [16, 17, 18, 19, 20, 135] (fun c16 c17 c18 c19 c20 i wr => ∃ (k : Nat) (bts : List BitL) (vB : Value) (bvs : List Value), k ≤ NB ∧ i = .int .i64 k ∧ Hid (bts.length = k) ∧ Hid (∀ b ∈ bts, BitOk b) ∧
        Hid (LS w wr w.heap.size V9 [.int .i64 (ST : Int), .int .u16 (M0 : Int), .int .u32 (T0 : Int), .int .u16 (G0 : Int), .int .i64 (K : Int)] nums dirs vN vD bts vB bvs [] (.slice none 0 0) [] [] (.slice none 0 0))) (fun _ _ _ _ _ i _ => NB - (intOf i).toNat)
      case atStart => exact ⟨0, [], .slice none 0 0, [], by omega, rfl, Lib.hid rfl, Lib.hid (by simp), L4⟩
      case round =>
        obtain ⟨k, bts, vB, bvs, hk, rfl, hbl, hbo, hL⟩ := hrel
        by_cases hkn : k < NB
        ·
          --[RB
          obtain ⟨n, hn⟩ : ∃ n, ps[k]? = some n := ⟨_, List.getElem?_eq_getElem (by omega)⟩
          have hn32 : n < 4294967296 := hpb.out n (List.mem_of_getElem? hn)
          have RCk := rc_later hp.out hL.out.bw
          obtain ⟨a2, rfl, -⟩ := RCk.2 (by omega)
          have q0 := rc_get RCk rfl hn
          clear RCk
          replace hn := Lib.hid hn
          obtain ⟨K1, hK1, hK20⟩ : ∃ K1 : Nat, (n : Int) % 20 = (K1 : Int) ∧ K1 < 20 := ⟨n % 20, by omega, by omega⟩
          obtain ⟨S0, hS0, hS1⟩ : ∃ S0 : Nat, (n : Int) / 4 = (S0 : Int) ∧ S0 < 4294967296 := ⟨n / 4, by omega, by omega⟩
          obtain ⟨A0, hA0, hA1⟩ : ∃ A0 : Nat, (n : Int) * 5 % 4294967296 = (A0 : Int) ∧ A0 < 4294967296 := ⟨n * 5 % 4294967296, by omega, by omega⟩
          obtain ⟨X0, hX0, hX1⟩ : ∃ X0 : Nat, Go.bits BinOp.xor IntKind.u32 (n : Int) 77 = (X0 : Int) ∧ X0 < 4294967296 := ⟨n ^^^ 77, u32_xor_nat n 77 hn32 (by decide), Nat.xor_lt_two_pow (n := 32) hn32 (by decide)⟩
          have hst := secSlice K1 hK20
          obtain ⟨nm, enm⟩ : ∃ nm, secTxt.take (K1 + 1) = nm := ⟨_, rfl⟩
          rw [enm] at hst
          have hnm := Lib.hid (enm ▸ secTxt_ok hK20)
          replace enm := Lib.hid enm
          go_upto_region 30 with fail
          have B1 : Hid (BS wr (wr.alloc (.cells #[.string ⟨nm.toArray⟩, .int .u32 (S0 : Int), .int .u32 (A0 : Int), .int .u32 (X0 : Int), .slice none 0 0, .slice none 0 0] 57)) wr.heap.size [.string ⟨nm.toArray⟩, .int .u32 (S0 : Int), .int .u32 (A0 : Int), .int .u32 (X0 : Int)] [] (.slice none 0 0) [] (.slice none 0 0) []) :=
            Lib.hid ⟨World.ownsRow_nil _ _ _ _, World.ownsRow_nil _ _ _ _, Recs.nil _ _ _, heap_alloc_new wr _, (Below.refl _ _).alloc (Nat.le_refl _) _, Nat.le_refl _, rfl⟩
          obtain ⟨w5, e5⟩ : ∃ w5, wr.alloc (.cells #[.string ⟨nm.toArray⟩, .int .u32 (S0 : Int), .int .u32 (A0 : Int), .int .u32 (X0 : Int), .slice none 0 0, .slice none 0 0] 57) = w5 := ⟨_, rfl⟩
          rw [e5] at B1 ⊢
          clear e5 hst q0 hS0 hA0 hX0 hK1
          obtain ⟨wq, rfl⟩ : ∃ wq, wq = wr := ⟨wr, rfl⟩
          obtain ⟨DN, hDN, hDN1⟩ : ∃ DN : Nat, (n : Int) / 256 % 41 = (DN : Int) ∧ DN < 41 := ⟨n / 256 % 41, by omega, by omega⟩
          obtain ⟨RN, hRN, hRN1⟩ : ∃ RN : Nat, Hid ((n : Int) / 16384 % 4 = (RN : Int)) ∧ RN < 4 := ⟨n / 16384 % 4, Lib.hid (by omega), by omega⟩
          obtain ⟨iN, hiN, hN0, hN1, hN2⟩ := info_parts Tryz.infoNums
          obtain ⟨iB, hiB, hB0, hB1, hB2⟩ := info_parts Tryz.infoBit
          go_wp2_with fail
          rw [hDN]
          clear hDN
          go_loopw [19, 154] (fun c19 j wx => ∃ (m : Nat) (dl : List UInt8) (vd : Value), m ≤ DN ∧ j = .int .u32 m ∧ Hid (dl.length = m) ∧ Hid (BS wq wx wq.heap.size [.string ⟨nm.toArray⟩, .int .u32 (S0 : Int), .int .u32 (A0 : Int), .int .u32 (X0 : Int)] dl vd [] (.slice none 0 0) [])) (fun _ j _ => DN - (intOf j).toNat)
          case atStart => exact ⟨0, [], .slice none 0 0, by omega, rfl, Lib.hid rfl, B1⟩
          case round =>
            obtain ⟨m, dl, vd, hm, rfl, hdl, hB⟩ := hrel
            by_cases hmn : m < DN
            ·
              --[RD
              obtain ⟨dA, dc, rfl, -, hdc, -⟩ := RT.of_owns hB.out.d
              have hdl40 : dl.length ≤ 40 := by have := hdl.out; omega
              obtain ⟨M3, hM3, -⟩ : ∃ M3 : Nat, (m : Int) % 24 = (M3 : Int) ∧ M3 < 24 := ⟨m % 24, by omega, by omega⟩
              obtain ⟨X3, hX3, -⟩ : ∃ X3 : Nat, (n : Int) / 2 ^ M3 = (X3 : Int) ∧ X3 < 4294967296 := ⟨n / 2 ^ M3, by simp, Nat.lt_of_le_of_lt (Nat.div_le_self _ _) hn32⟩
              have c4 := World.cell?_of_row hB.out.v 4 (.slice dA dl.length dc) rfl
              obtain ⟨x, hx⟩ : ∃ x : UInt8, ((X3 : Int) + (k : Int)) % 256 = (x.toNat : Int) := ⟨UInt8.ofNat ((X3 + k) % 256), by rw [UInt8.toNat_ofNat_of_lt' (by show _ < 256; omega)]; omega⟩
              have B5 := Lib.hid (hB.out.later ((Below.refl _ wr).alloc (Nat.le_refl _) (.cells #[.int .u8 (x.toNat : Int)] 5)))
              have hsz5 : wq.heap.size ≤ (wr.alloc (.cells #[.int .u8 (x.toNat : Int)] 5)).heap.size := B5.out.bw.size
              go_wp2_with (at_builtin; refine Stop.mk ?_)
              refine Stop.go ?_
              refine wpList_append_bytes Tryz.underlying34 Tryz.infoByte rfl (.tmp 158) (.tmp 167) rfl wq.heap.size _ dl.length dl rfl B5.out.d (some ⟨wr.heap.size, 0, none⟩) 1 1 [x] rfl rfl (RB.new1 _ x _) (by omega) hsz5 ?_
              intro vd' w6 own6 g6 at6
              obtain ⟨dl', edl⟩ : ∃ dl', dl ++ [x] = dl' := ⟨_, rfl⟩
              have own6' : w6.ownsRow wq.heap.size 5 1 vd' dl'.length (dl'.map bv) := by
                rw [← edl, List.length_append]
                exact own6
              have K6 := Keeps.of_grown B5.out.d g6
              have g9 := K6.block _ _ _ _ B5.out.v (by decide)
              have c6 := World.cell?_of_row g9 4 (.slice dA dl.length dc) rfl
              have f6 := frozen_of_row _ wq.heap.size 4 _ _ g9
              have B6 := Lib.hid (B5.out.pushD own6' g6)
              obtain ⟨nA, nc, rfl, -⟩ := RT.of_owns own6'
              have hdl' : Hid (dl'.length = m + 1) := Lib.hid (by rw [← edl, List.length_append, hdl.out]; rfl)
              clear own6 own6' edl g6 at6 K6 g9 B5 c4 hdl hB hx hX3 hM3
              go_wp2
              go_roundw
              case rel => exact ⟨m + 1, dl', _, by omega, by go_num, hdl', B6⟩
              case measure => simp [intOf]; omega
              --]RD
            · obtain rfl : m = DN := by omega
              clear hmn hm
              go_wp2_with fail
              rw [hRN.out]
              go_loopw [20, 174] (fun c20 j wx => ∃ (m : Nat) (rl : List (Nat × Nat × Nat)) (vr : Value) (rvs : List Value), m ≤ RN ∧ j = .int .u32 m ∧ Hid (rl.length = m) ∧ Hid (BS wq wx wq.heap.size [.string ⟨nm.toArray⟩, .int .u32 (S0 : Int), .int .u32 (A0 : Int), .int .u32 (X0 : Int)] dl vd rl vr rvs)) (fun _ j _ => RN - (intOf j).toNat)
              case atStart => exact ⟨0, [], .slice none 0 0, [], by omega, rfl, Lib.hid rfl, hB⟩
              case round =>
                clear hB
                obtain ⟨r, rl, vr, rvs, hr, rfl, hrl, hB⟩ := hrel
                by_cases hrn : r < RN
                ·
                  --[RR
                  obtain ⟨rA, rc, rfl, -, hrc, -⟩ := RT.of_owns hB.out.r
                  have hrl4 : rl.length ≤ 4 := by have := hrl.out; omega
                  obtain ⟨Y1, hY1, hY1l⟩ : ∃ Y1 : Nat, ((n : Int) + (r : Int)) % 4294967296 = (Y1 : Int) ∧ Y1 < 4294967296 := ⟨(n + r) % 4294967296, by omega, by omega⟩
                  obtain ⟨M4, hM4⟩ : ∃ M4 : Nat, (r : Int) + 3 = (M4 : Int) := ⟨r + 3, by omega⟩
                  obtain ⟨Y2, hY2, hY2l⟩ : ∃ Y2 : Nat, (n : Int) / 2 ^ M4 = (Y2 : Int) ∧ Y2 < 4294967296 := ⟨n / 2 ^ M4, by simp, Nat.lt_of_le_of_lt (Nat.div_le_self _ _) hn32⟩
                  obtain ⟨Y4, hY4, hY4l⟩ : ∃ Y4 : Nat, (n : Int) / 2 ^ r = (Y4 : Int) ∧ Y4 < 4294967296 := ⟨n / 2 ^ r, by simp, Nat.lt_of_le_of_lt (Nat.div_le_self _ _) hn32⟩
                  obtain ⟨Y3, hY3, hY3l⟩ : ∃ Y3 : Nat, (Y4 : Int) % 65536 = (Y3 : Int) ∧ Y3 < 65536 := ⟨Y4 % 65536, by omega, by omega⟩
                  have c5 := World.cell?_of_row hB.out.v 5 (.slice rA rl.length rc) rfl
                  have B5 := Lib.hid (hB.out.later (((Below.refl _ wr).alloc (Nat.le_refl _) (.cells #[.int .u64 (Y1 : Int), .int .u64 (Y2 : Int), .int .u64 (Y3 : Int)] 54)).alloc (by simp) (.cells #[.slice (some ⟨wr.heap.size, 0, none⟩) 3 3] 25)))
                  have hsz5 : wq.heap.size ≤ ((wr.alloc (.cells #[.int .u64 (Y1 : Int), .int .u64 (Y2 : Int), .int .u64 (Y3 : Int)] 54)).alloc (.cells #[.slice (some ⟨wr.heap.size, 0, none⟩) 3 3] 25)).heap.size := B5.out.bw.size
                  have T3 : RRel ((wr.alloc (.cells #[.int .u64 (Y1 : Int), .int .u64 (Y2 : Int), .int .u64 (Y3 : Int)] 54)).alloc (.cells #[.slice (some ⟨wr.heap.size, 0, none⟩) 3 3] 25)) [.slice (some ⟨wr.heap.size, 0, none⟩) 3 3] (Y1, Y2, Y3) := ⟨_, rfl, RT.later (RT.new (w := wr) (vs := [Y1, Y2, Y3].map uv) (T := 54) rfl) ((Below.refl _ _).alloc (Nat.le_refl _) _), by show Y1 ≤ _; omega, by show Y2 ≤ _; omega, by show Y3 ≤ _; omega⟩
                  replace T3 := Lib.hid T3
                  have RC5 : RC ((wr.alloc (.cells #[.int .u64 (Y1 : Int), .int .u64 (Y2 : Int), .int .u64 (Y3 : Int)] 54)).alloc (.cells #[.slice (some ⟨wr.heap.size, 0, none⟩) 3 3] 25)) (some ⟨wr.heap.size + 1, 0, none⟩) 1 1 [.slice (some ⟨wr.heap.size, 0, none⟩) 3 3] := rc_newN (by simp) rfl
                  replace RC5 := Lib.hid RC5
                  go_wp2_with (at_builtin; refine Stop.mk ?_)
                  refine Stop.go ?_
                  refine wpList_append_any rfl (.tmp 178) (.tmp 194) 55 rfl wq.heap.size 25 iN (.slice none 0 0) 1 24 Tryz.underlying55 hiN hN0 hN1 hN2 rfl (by omega) _ rl.length rvs rfl B5.out.r (some ⟨wr.heap.size + 1, 0, none⟩) 1 1 [.slice (some ⟨wr.heap.size, 0, none⟩) 3 3] rfl RC5.out (List.all_eq_true.1 rfl) (by simp only [maxLen]; omega) (by omega) hsz5 ?_
                  intro vr' w6 own6 g6 at6
                  obtain ⟨rl', erl⟩ : ∃ rl', rl ++ [(Y1, Y2, Y3)] = rl' := ⟨_, rfl⟩
                  have K6 := Keeps.of_grown B5.out.r g6
                  have g9 := K6.block _ _ _ _ B5.out.v (by decide)
                  have c6 := World.cell?_of_row g9 5 (.slice rA rl.length rc) rfl
                  have f6 := frozen_of_row _ wq.heap.size 5 _ _ g9
                  have B6 := B5.out.pushR own6 g6 rfl T3.out
                  rw [erl] at B6
                  replace B6 := Lib.hid B6
                  obtain ⟨nA, nc, rfl, -⟩ := RT.of_owns own6
                  have hrl' : Hid (rl'.length = r + 1) := Lib.hid (by rw [← erl, List.length_append, hrl.out]; rfl)
                  clear own6 erl g6 at6 K6 g9 B5 c5 hrl hB T3 RC5 hY1 hY2 hY3 hY4 hM4
                  go_wp2
                  go_roundw
                  case rel => exact ⟨r + 1, rl', _, _, by omega, by go_num, hrl', B6⟩
                  case measure => simp [intOf]; omega
                  --]RR
                · obtain rfl : r = RN := by omega
                  --[RX
                  obtain ⟨dA, dc, rfl, RD5, hdc, -⟩ := RT.of_owns hB.out.d
                  obtain ⟨rA, rc, rfl, RR5, hrc, -⟩ := RT.of_owns hB.out.r
                  obtain ⟨bA, bc, rfl, -, hbc, -⟩ := RT.of_owns hL.out.b
                  have hbl4 : bts.length ≤ 4 := by have := hbl.out; omega
                  have L7 := Lib.hid (hL.out.later hB.out.bw)
                  have c7 := World.cell?_of_row L7.out.v9 7 (.slice bA bts.length bc) rfl
                  have d0 := World.cell?_of_row hB.out.v 0 (.string ⟨nm.toArray⟩) rfl
                  have d1 := World.cell?_of_row hB.out.v 1 (.int .u32 (S0 : Int)) rfl
                  have d2 := World.cell?_of_row hB.out.v 2 (.int .u32 (A0 : Int)) rfl
                  have d3 := World.cell?_of_row hB.out.v 3 (.int .u32 (X0 : Int)) rfl
                  have d4 := World.cell?_of_row hB.out.v 4 (.slice dA dl.length dc) rfl
                  have d5 := World.cell?_of_row hB.out.v 5 (.slice rA rl.length rc) rfl
                  obtain ⟨cs6, ecs⟩ : ∃ cs6 : List Value, [.string ⟨nm.toArray⟩, .int .u32 (S0 : Int), .int .u32 (A0 : Int), .int .u32 (X0 : Int), .slice dA dl.length dc, .slice rA rl.length rc] = cs6 := ⟨_, rfl⟩
                  have RB5 : Hid (RBit wr cs6 ⟨nm, S0, A0, X0, dl, rl⟩) := Lib.hid ⟨dA, _, dc, rA, _, rc, rvs, ecs.symm, RD5, hdc, RR5, hB.out.rr, hS1, hA1, hX1⟩
                  have BO : Hid (BitOk ⟨nm, S0, A0, X0, dl, rl⟩) := Lib.hid ⟨hnm.out.2.1, by show nm.length ≤ 20; rw [hnm.out.1]; omega, hnm.out.2.2.1, hnm.out.2.2.2, by show dl.length ≤ 40; rw [hdl.out]; omega, by show rl.length ≤ 3; rw [hrl.out]; omega⟩
                  clear RD5 RR5 hB hL hdl hrl
                  replace ecs := Lib.hid ecs
                  have L8 := Lib.hid (L7.out.later ((Below.refl _ wr).alloc (Nat.le_refl _) (.cells #[.string ⟨nm.toArray⟩, .int .u32 (S0 : Int), .int .u32 (A0 : Int), .int .u32 (X0 : Int), .slice dA dl.length dc, .slice rA rl.length rc] 57)))
                  have RB6 := Lib.hid (RB5.out.later ((Below.refl _ wr).alloc (Nat.le_refl _) (.cells #[.string ⟨nm.toArray⟩, .int .u32 (S0 : Int), .int .u32 (A0 : Int), .int .u32 (X0 : Int), .slice dA dl.length dc, .slice rA rl.length rc] 57)))
                  have hsz8 : w.heap.size ≤ (wr.alloc (.cells #[.string ⟨nm.toArray⟩, .int .u32 (S0 : Int), .int .u32 (A0 : Int), .int .u32 (X0 : Int), .slice dA dl.length dc, .slice rA rl.length rc] 57)).heap.size := L8.out.bw.size
                  have RC8 : RC (wr.alloc (.cells #[.string ⟨nm.toArray⟩, .int .u32 (S0 : Int), .int .u32 (A0 : Int), .int .u32 (X0 : Int), .slice dA dl.length dc, .slice rA rl.length rc] 57)) (some ⟨wr.heap.size, 0, none⟩) 6 1 [.string ⟨nm.toArray⟩, .int .u32 (S0 : Int), .int .u32 (A0 : Int), .int .u32 (X0 : Int), .slice dA dl.length dc, .slice rA rl.length rc] := rc_newN rfl rfl
                  replace RC8 := Lib.hid RC8
                  go_wp2_with (at_builtin; refine Stop.mk ?_)
                  refine Stop.go ?_
                  refine wpList_append_any rfl (.tmp 199) (.tmp 201) 26 rfl w.heap.size 57 iB _ 6 80 Tryz.underlying26 hiB hB0 hB1 hB2 rfl (by omega) _ bts.length bvs rfl L8.out.b (some ⟨wr.heap.size, 0, none⟩) 1 1 [.string ⟨nm.toArray⟩, .int .u32 (S0 : Int), .int .u32 (A0 : Int), .int .u32 (X0 : Int), .slice dA dl.length dc, .slice rA rl.length rc] rfl RC8.out (List.all_eq_true.1 rfl) (by simp only [maxLen]; omega) (by omega) hsz8 ?_
                  intro vB' w6 own6 g6 at6
                  rw [ecs.out] at own6
                  obtain ⟨bts', eb⟩ : ∃ bts', bts ++ [(⟨nm, S0, A0, X0, dl, rl⟩ : BitL)] = bts' := ⟨_, rfl⟩
                  have K6 := Keeps.of_grown L8.out.b g6
                  have g9 := K6.block _ _ _ _ L8.out.v9 (by decide)
                  have c9 := World.cell?_of_row g9 7 (.slice bA bts.length bc) rfl
                  have f9 := frozen_of_row _ V9 7 _ _ g9
                  have L9 := L8.out.pushB own6 g6 (by rw [← ecs.out]; rfl) RB6.out
                  rw [eb] at L9
                  replace L9 := Lib.hid L9
                  obtain ⟨nA, nc, rfl, -⟩ := RT.of_owns own6
                  have hbl' : Hid (bts'.length = k + 1) := Lib.hid (by rw [← eb, List.length_append, hbl.out]; rfl)
                  have hbo' : Hid (∀ b ∈ bts', BitOk b) := Lib.hid (fun b hb => by
                    rw [← eb] at hb
                    rcases List.mem_append.1 hb with h | h
                    · exact hbo.out b h
                    · simp only [List.mem_cons, List.not_mem_nil, or_false] at h
                      rw [h]
                      exact BO.out)
                  clear own6 eb g6 at6 K6 g9 L8 L7 c7 d0 d1 d2 d3 d4 d5 RB5 RB6 BO RC8 hbl hbo ecs hnm enm hn hRN
                  go_wp2
                  go_roundw
                  case rel => exact ⟨k + 1, bts', _, _, by omega, by go_num, hbl', hbo', L9⟩
                  case measure => simp [intOf]; omega
                  --]RX
          --]RB
        · obtain rfl : k = NB := by omega
          clear hNB hsl hpc hpb hp
          obtain ⟨nA, nc, rfl, RN9, hnc, -⟩ := RT.of_owns hL.out.n
          obtain ⟨dA, dc, rfl, RD9, hdc, -⟩ := RT.of_owns hL.out.d
          obtain ⟨bA, bc, rfl, RB9, -⟩ := RT.of_owns hL.out.b
          have hbl4 : Hid (bts.length ≤ 4) := Lib.hid (by have := hbl.out; omega)
          clear hbl
          have d0 := World.cell?_of_row hL.out.v9 0 (.int .i64 (ST : Int)) rfl
          have d1 := World.cell?_of_row hL.out.v9 1 (.int .u16 (M0 : Int)) rfl
          have d2 := World.cell?_of_row hL.out.v9 2 (.int .u32 (T0 : Int)) rfl
          have d3 := World.cell?_of_row hL.out.v9 3 (.int .u16 (G0 : Int)) rfl
          have d4 := World.cell?_of_row hL.out.v9 4 (.int .i64 (K : Int)) rfl
          have d5 := World.cell?_of_row hL.out.v9 5 (.slice nA nums.length nc) rfl
          have d6 := World.cell?_of_row hL.out.v9 6 (.slice dA dirs.length dc) rfl
          have d7 := World.cell?_of_row hL.out.v9 7 (.slice bA bts.length bc) rfl
          have d8 := World.cell?_of_row hL.out.v9 8 (.slice none 0 0) rfl
          have d9 := World.cell?_of_row hL.out.v9 9 (.slice none 0 0) rfl
          obtain ⟨c8, hc8, g8⟩ := hL.out.v8
          have bw := hL.out.bw
          have M9 : MadeV wr ⟨K, nums, nA, nc, dirs, dA, dc, bA, bc, bvs, none, 0, [], none, 0⟩ ⟨ST, M0, T0, G0, optB K nums dirs, bts, []⟩ :=
            ⟨rfl, OV.out, RN9, hnc, RD9, hdc, RB9, hL.out.br, RT.empty _ _ _ _, Recs.nil _ _ _, RT.empty _ _ _ _⟩
          have MO : MadeOk ⟨ST, M0, T0, G0, optB K nums dirs, bts, []⟩ := ⟨hST, hM1.out, hT0, hG0, hbl4.out, hbo.out, Nat.zero_le _, fun y hy => by simp at hy⟩
          replace M9 := Lib.hid M9
          replace MO := Lib.hid MO
          replace g8 := Lib.hid g8
          replace hc8 := Lib.hid hc8
          replace bw := Lib.hid bw
          clear hL RN9 RD9 RB9 OV hbo hM1 hm hbl4
          have hi37 : (Tryz.prog.info? 30).map (·.size) = some 10 := by kernel_rfl
          replace hi37 := Lib.hid hi37
          go_wp2_with fail
          refine wp_loop_rounds 1 ?_
          rw [rounds_succ]
          go_wp2_with (refine wpList_store_row rfl 30 (.tmp 8) (.tmp 247) rfl w.heap.size 30 c8.toArray #[.int .i64 (ST : Int), .int .u16 (M0 : Int), .int .u32 (T0 : Int), .int .u16 (G0 : Int), .int .i64 (K : Int), .slice nA nums.length nc, .slice dA dirs.length dc, .slice bA bts.length bc, .slice none 0 0, .slice none 0 0] rfl rfl g8.out (by simp [hc8.out]) hi37.out (List.all_eq_true.1 rfl) ?_)
          have CR := chg_setRow wr w.heap.size #[.int .i64 (ST : Int), .int .u16 (M0 : Int), .int .u32 (T0 : Int), .int .u16 (G0 : Int), .int .i64 (K : Int), .slice nA nums.length nc, .slice dA dirs.length dc, .slice bA bts.length bc, .slice none 0 0, .slice none 0 0]
          have GR := setRow_heap wr w.heap.size c8.toArray #[.int .i64 (ST : Int), .int .u16 (M0 : Int), .int .u32 (T0 : Int), .int .u16 (G0 : Int), .int .i64 (K : Int), .slice nA nums.length nc, .slice dA dirs.length dc, .slice bA bts.length bc, .slice none 0 0, .slice none 0 0] 30 (0, 0) g8.out
          have KR : Keeps 30 wr (wr.setRow w.heap.size #[.int .i64 (ST : Int), .int .u16 (M0 : Int), .int .u32 (T0 : Int), .int .u16 (G0 : Int), .int .i64 (K : Int), .slice nA nums.length nc, .slice dA dirs.length dc, .slice bA bts.length bc, .slice none 0 0, .slice none 0 0]) := Keeps.of_chg CR (fun k _ hk => ⟨c8.toArray, (0, 0), hk ▸ g8.out⟩)
          have MR := Lib.hid (M9.out.keeps KR (by decide) (by decide) (by decide) (by decide) (by decide) (by decide))
          have BR : Below w.heap.size w (wr.setRow w.heap.size #[.int .i64 (ST : Int), .int .u16 (M0 : Int), .int .u32 (T0 : Int), .int .u16 (G0 : Int), .int .i64 (K : Int), .slice nA nums.length nc, .slice dA dirs.length dc, .slice bA bts.length bc, .slice none 0 0, .slice none 0 0]) := bw.out.trans (CR.below bw.out.size (fun k hk e => by omega))
          refine bodyPost_ret (results_cell rfl _ _ w.heap.size 30 #[.int .i64 (ST : Int), .int .u16 (M0 : Int), .int .u32 (T0 : Int), .int .u16 (G0 : Int), .int .i64 (K : Int), .slice nA nums.length nc, .slice dA dirs.length dc, .slice bA bts.length bc, .slice none 0 0, .slice none 0 0] (0, 0) _ rfl GR Tryz.underlying30 rfl hi37.out) rfl ?_
          exact ⟨_, _, rfl, MR, MO, Lib.hid rfl, BR⟩

open Go Go.RowKit
attribute [local go_sem ↓] Go.wp_at_zero Go.wp_at_succ

/-- The text whose beginnings are the symbols' names. -/
def symTxt : List UInt8 := [97, 95, 115, 121, 109, 98, 111, 108, 95, 111, 102, 95, 116, 104, 101, 95, 102, 105, 108, 101]
theorem symTxt_ok {k : Nat} (h : k < 20) : (symTxt.take (k + 1)).length = k + 1 ∧ symTxt.take (k + 1) ≠ [] ∧ (0 : UInt8) ∉ symTxt.take (k + 1) := by
  have h2 : ∀ k : Fin 20, (symTxt.take (k.val + 1)).length = k.val + 1 ∧ symTxt.take (k.val + 1) ≠ [] ∧ (0 : UInt8) ∉ symTxt.take (k.val + 1) := by decide
  exact h2 ⟨k, h⟩
theorem symSlice (k : Nat) (h : k < 20) (W : World) : (Instr.slice 9 (.string ⟨#[97, 95, 115, 121, 109, 98, 111, 108, 95, 111, 102, 95, 116, 104, 101, 95, 102, 105, 108, 101]⟩) none (some (.int .u32 (1 + (k : Int)))) none).run Tryz.prog W = .ok (.string ⟨(symTxt.take (k + 1)).toArray⟩) W := by
  have hs : (⟨#[97, 95, 115, 121, 109, 98, 111, 108, 95, 111, 102, 95, 116, 104, 101, 95, 102, 105, 108, 101]⟩ : ByteArray).size = 20 := rfl
  rw [run_slice_string_h W 9 _ Tryz.underlying9 .u32 (1 + (k : Int)) (by omega) (by rw [hs]; omega), ← extract_take]
  have : (1 + (k : Int)).toNat = k + 1 := by omega
  rw [this]
  rfl
theorem Tryz.infoPSym : (Tryz.prog.info? 45).map (fun i => (i.zero, i.size, i.bytes)) = some (some (.agg #[.string ⟨#[]⟩, .int .u32 0, .int .i16 0, .int .u16 0, .int .u8 0]), 5, 32) := by kernel_rfl
theorem i16_wrap (n : Int) : -32768 ≤ IntKind.i16.wrap n ∧ IntKind.i16.wrap n < 32768 := by
  simp [IntKind.wrap, IntKind.signed, IntKind.bits]
  omega
/-- What the law's own maker answers, where there are no sections. -/
def MadePostS (w : World) (e : Ending) (w' : World) : Prop :=
  ∃ s m, e = .returned (.agg (s.cells m).toArray) ∧ Hid (MadeV w' s m) ∧ Hid (MadeOk m) ∧ Hid (m.bits = []) ∧ Below w.heap.size w w'

set_option maxHeartbeats 40000000 in
theorem lawsPeOfS_any (F : Nat) (hF : F < 4294967296) (PA : Option Addr) (ps : List Nat) (pc : Nat) (w : World) (hpc : ps.length ≤ pc) (hpb : Hid (∀ v ∈ ps, v < 4294967296)) (hp : Hid (RC w PA 1 ps.length (ps.map fun n : Nat => Value.int .u32 n))) :
    Calls Tryz.prog 4 #[.int .u32 F, .slice none 0 0, .slice none 0 0, .slice PA ps.length pc] w (MadePostS w) := by
  go_enter Tryz.func4, Tryz.ntmps4
  go_wp2_with fail
  refine (machines_any _).mono ?_
  rintro e w1 ⟨⟨v, rfl, RM⟩, b1⟩
  obtain ⟨J, hJ, hJ8⟩ : ∃ J : Nat, (F : Int) / 256 % 8 = (J : Int) ∧ J < 8 := ⟨F / 256 % 8, by omega, by omega⟩
  obtain ⟨M0, hM0, hM1⟩ : ∃ M0 : Nat, ((machL.map fun x => Value.int .u16 x)[J]? = some (.int .u16 (M0 : Int))) ∧ (M0 : Int) ∈ machL := by
    have hl : machL.length = 8 := rfl
    have h1 : machL[J]? = some machL[J] := List.getElem?_eq_getElem (by omega)
    have h2 : machL[J] ∈ machL := List.getElem_mem _
    have h3 : (0 : Int) ≤ machL[J] := by
      revert h2
      generalize machL[J] = x
      intro h2
      simp only [machL, List.mem_cons, List.not_mem_nil, or_false] at h2
      omega
    obtain ⟨n, hn⟩ := Int.eq_ofNat_of_zero_le h3
    refine ⟨n, ?_, ?_⟩
    · rw [List.getElem?_map, h1, ← hn]; rfl
    · rw [← hn]; exact h2
  obtain ⟨a, rfl, hc⟩ := RM.2 (by decide)
  have q0 := hc J _ hM0
  have hm : M0 ≤ 50000 := by
    have h := hM1
    simp only [machL, List.mem_cons, List.not_mem_nil, or_false] at h
    omega
  replace hM1 := Lib.hid hM1
  clear hc RM hM0
  obtain ⟨T0, hT, hT0⟩ : ∃ T0 : Nat, (F : Int) * 7919 % 4294967296 = (T0 : Int) ∧ T0 < 4294967296 := ⟨F * 7919 % 4294967296, by omega, by omega⟩
  obtain ⟨G0, hG, hG0⟩ : ∃ G0 : Nat, IntKind.u16.wrap ((F : Int) / 8) = (G0 : Int) ∧ G0 < 65536 := ⟨F / 8 % 65536, by rw [IntKind.wrap_u16]; omega, by omega⟩
  go_upto_region 2 with fail
  have hz0 : w.heap.size + 1 ≤ w1.heap.size := by have := b1.size; simpa using this
  have L0 : Hid (LS w (w1.alloc (.cells #[.int .i64 0, .int .u16 (M0 : Int), .int .u32 (T0 : Int), .int .u16 (G0 : Int), .int .i64 0, .slice none 0 0, .slice none 0 0, .slice none 0 0, .slice none 0 0, .slice none 0 0] 30)) w.heap.size w1.heap.size [.int .i64 0, .int .u16 (M0 : Int), .int .u32 (T0 : Int), .int .u16 (G0 : Int), .int .i64 0] [] [] (.slice none 0 0) (.slice none 0 0) [] (.slice none 0 0) [] [] (.slice none 0 0) [] [] (.slice none 0 0)) := Lib.hid (by
    refine LS.start (heap_alloc_new w1 _) ⟨[.int .i64 0, .int .u16 0, .int .u32 0, .int .u16 0, .int .i64 0, .slice none 0 0, .slice none 0 0, .slice none 0 0, .slice none 0 0, .slice none 0 0], rfl, ?_⟩ ?_ (Nat.le_refl _) (by omega) (by omega) rfl
    · rw [heap_alloc_old _ _ (by omega), b1.block _ (by simp), heap_alloc_new]
    · exact (((Below.refl w.heap.size w).alloc (Nat.le_refl _) _).trans (b1.mono (by simp))).alloc (by omega) _)
  obtain ⟨w2, e2⟩ : ∃ w2, w1.alloc (.cells #[.int .i64 0, .int .u16 (M0 : Int), .int .u32 (T0 : Int), .int .u16 (G0 : Int), .int .i64 0, .slice none 0 0, .slice none 0 0, .slice none 0 0, .slice none 0 0, .slice none 0 0] 30) = w2 := ⟨_, rfl⟩
  rw [e2] at L0 ⊢
  obtain ⟨V9, hV9⟩ : ∃ V, w1.heap.size = V := ⟨_, rfl⟩
  rw [hV9] at L0 ⊢
  clear e2 q0 b1 hV9 hz0 hT hG hJ
  obtain ⟨S0, hS, hS0⟩ : ∃ S0 : Nat, (F : Int) / 2 % 64 = (S0 : Int) ∧ S0 < 64 := ⟨F / 2 % 64, by omega, by omega⟩
  go_upto_if 37 with fail
  go_cut [] from 35 to 43 (fun wx => ∃ ST : Nat, (ST = 0 ∨ (64 ≤ ST ∧ ST ≤ 127)) ∧ Hid (LS w wx w.heap.size V9 [.int .i64 (ST : Int), .int .u16 (M0 : Int), .int .u32 (T0 : Int), .int .u16 (G0 : Int), .int .i64 0] [] [] (.slice none 0 0) (.slice none 0 0) [] (.slice none 0 0) [] [] (.slice none 0 0) [] [] (.slice none 0 0)))
  case first =>
    --[A
    cases hb : (bits BinOp.and IntKind.u32 (F : Int) 1 != 0)
    · go_wp2_with fail
      go_meet
      case rel => exact ⟨0, .inl rfl, L0⟩
    · have c0 := World.cell?_of_row L0.out.v9 0 _ rfl
      have f0 := frozen_of_row _ V9 0 _ _ L0.out.v9
      go_wp2_with fail
      go_meet
      case rel => exact ⟨64 + S0, .inr ⟨by omega, by omega⟩, Lib.hid (L0.out.setH 0 (.int .i64 (64 + (S0 : Int))) (by omega))⟩
    --]A
  case rest =>
    obtain ⟨ST, hST, L1⟩ := hcut
    clear L0 hS hS0
    obtain ⟨J3, hJ3, hJ33⟩ : ∃ J : Nat, (F : Int) / 8192 % 3 = (J : Int) ∧ J < 3 := ⟨F / 8192 % 3, by omega, by omega⟩
    obtain ⟨K, hK, hK0⟩ : ∃ K : Nat, ([.int .i64 0, .int .i64 32, .int .i64 64] : List Value)[J3]? = some (.int .i64 (K : Int)) ∧ (K = 0 ∨ K = 32 ∨ K = 64) := by
      rcases (by omega : J3 = 0 ∨ J3 = 1 ∨ J3 = 2) with h | h | h <;> subst h
      · exact ⟨0, rfl, .inl rfl⟩
      · exact ⟨32, rfl, .inr (.inl rfl)⟩
      · exact ⟨64, rfl, .inr (.inr rfl)⟩
    have q3 : (wc.alloc (.cells #[.int .i64 0, .int .i64 32, .int .i64 64] 3)).cell? ⟨wc.heap.size, J3, none⟩ = some (.int .i64 (K : Int)) := World.cell?_of_row (l := [.int .i64 0, .int .i64 32, .int .i64 64]) (heap_alloc_new wc _) J3 _ hK
    have L2 := Lib.hid (L1.out.later ((Below.refl _ wc).alloc (Nat.le_refl _) (.cells #[.int .i64 0, .int .i64 32, .int .i64 64] 3)))
    have c4 := World.cell?_of_row L2.out.v9 4 _ rfl
    have f4 := frozen_of_row _ V9 4 _ _ L2.out.v9
    clear hK
    go_upto_region 5 with fail
    have L3 := Lib.hid (L2.out.setH 4 (.int .i64 (K : Int)) (by omega))
    obtain ⟨w3, e3⟩ : ∃ w3, (wc.alloc (.cells #[.int .i64 0, .int .i64 32, .int .i64 64] 3)).setCell ⟨V9, 4, none⟩ (.int .i64 (K : Int)) = w3 := ⟨_, rfl⟩
    rw [e3] at L3 ⊢
    clear e3 L2 L1 c4 f4 q3 hJ3
    have c44 := World.cell?_of_row L3.out.v9 4 (.int .i64 (K : Int)) rfl
    go_upto_if 53 with fail
    clear c44
    go_cut [10, 11, 12, 13, 14, 15] from 51 to 128 (fun c10 c11 c12 c13 c14 c15 wx => ∃ (nums dirs : List Nat) (vN vD : Value), Hid (LS w wx w.heap.size V9 [.int .i64 (ST : Int), .int .u16 (M0 : Int), .int .u32 (T0 : Int), .int .u16 (G0 : Int), .int .i64 (K : Int)] nums dirs vN vD [] (.slice none 0 0) [] [] (.slice none 0 0) [] [] (.slice none 0 0)) ∧ Hid (OptV K nums dirs))
    case first =>
      rcases hK0 with rfl | rfl | rfl
      · go_wp2_with fail
        go_meet
        case rel => exact ⟨[], [], _, _, L3, Lib.hid ⟨.inl ⟨rfl, rfl⟩, fun h => absurd rfl h, fun _ => rfl, by simp, by simp⟩⟩
      --<KIND
      ·
        --[K32
        have c44 := World.cell?_of_row L3.out.v9 4 (.int .i64 (32 : Int)) rfl
        go_wp2_with fail
        refine (peOptionalT_false _).mono ?_
        rintro e w4 ⟨⟨vw, cw, rfl, hcw, RW⟩, b4⟩
        have L4 := Lib.hid (L3.out.later b4)
        obtain ⟨gW, oW, rfl, hgW⟩ := RW.out.lt (by omega)
        clear b4 L3 c44
        obtain ⟨N0, hN, hN0⟩ : ∃ N0 : Nat, (F : Int) / 65536 % 17 = (N0 : Int) ∧ N0 ≤ 16 := ⟨F / 65536 % 17, by omega, by omega⟩
        obtain ⟨i0, hi, hz0, hz1, hz2⟩ := info_parts Tryz.info64
        go_upto_region 8 with fail
        clear hN
        go_wp2_with fail
        go_loopw [12, 13, 14, 64] (fun c12 c13 c14 i wr => ∃ (k : Nat) (l : List Nat) (vN : Value), k ≤ 30 ∧ i = .int .i64 k ∧ Hid (l.length = k) ∧ Hid (∀ v ∈ l, v ≤ 18446744073709551615) ∧ Hid (RT wr 3 (some ⟨gW, oW, none⟩) 1 30 (optW32.map iv)) ∧
          Hid (LS w wr w.heap.size V9 [.int .i64 (ST : Int), .int .u16 (M0 : Int), .int .u32 (T0 : Int), .int .u16 (G0 : Int), .int .i64 (32 : Int)] l [] vN (.slice none 0 0) [] (.slice none 0 0) [] [] (.slice none 0 0) [] [] (.slice none 0 0))) (fun _ _ _ i _ => 30 - (intOf i).toNat)
        case atStart => exact ⟨0, [], .slice none 0 0, by omega, rfl, Lib.hid rfl, Lib.hid (by simp), RW, L4⟩
        case round =>
          obtain ⟨k, l, vN, hk, rfl, hl, hlb, hW, hL⟩ := hrel
          by_cases hkn : k < 30
          · obtain ⟨x, hx, hxs⟩ : ∃ x : Int, (optW32.map iv)[k]? = some (.int .i64 x) ∧ (x = 1 ∨ x = 2 ∨ x = 4 ∨ x = 8) := by
              have hlen : optW32.length = 30 := rfl
              have h1 : optW32[k]? = some optW32[k] := List.getElem?_eq_getElem (by omega)
              have h2 : ∀ x ∈ optW32, x = 1 ∨ x = 2 ∨ x = 4 ∨ x = 8 := by decide
              exact ⟨optW32[k], by rw [List.getElem?_map, h1]; rfl, h2 _ (List.getElem_mem _)⟩
            obtain ⟨g', o', e', q0⟩ := hW.out.at hx
            simp only [Option.some.injEq, Addr.mk.injEq, and_true] at e'
            obtain ⟨rfl, rfl⟩ := e'
            obtain ⟨vA, vc, rfl, -, hvc, -⟩ := RT.of_owns hL.out.n
            have hlk : l.length ≤ 30 := by have := hl.out; omega
            have hk256 : (k : Int) % 256 = (k : Int) := by omega
            have hk655 : (k : Int) % 65536 = (k : Int) := by omega
            go_upto_if 83 with fail
            go_cut [14] from 82 to 88 (fun c14 wx => c14 = .int .u64 (k : Int) ∧ wx = wr)
            case first =>
              rcases hxs with rfl | rfl | rfl | rfl
              · go_wp2_with fail
                go_meet
                case rel => exact ⟨by first | rfl | rw [hk256] | rw [hk655], rfl⟩
              · go_wp2_with fail
                go_meet
                case rel => exact ⟨by first | rfl | rw [hk256] | rw [hk655], rfl⟩
              · go_wp2_with fail
                go_meet
                case rel => exact ⟨by first | rfl | rw [hk256] | rw [hk655], rfl⟩
              · go_wp2_with fail
                go_meet
                case rel => exact ⟨by first | rfl | rw [hk256] | rw [hk655], rfl⟩
            case rest =>
              obtain ⟨rfl, rfl⟩ := hcut
              clear hk256 hk655 q0 hx hxs
              have L5 := Lib.hid (hL.out.later ((Below.refl _ wc).alloc (Nat.le_refl _) (.cells #[.int .u64 (k : Int)] 54)))
              have hW5 := Lib.hid (hW.out.later ((Below.refl _ wc).alloc (Nat.le_refl _) (.cells #[.int .u64 (k : Int)] 54)))
              have c5 := World.cell?_of_row hL.out.v9 5 (.slice vA l.length vc) rfl
              have hsz5 := L5.out.bw.size
              clear hL hW
              go_wp2_with (at_builtin; refine Stop.mk ?_)
              refine Stop.go ?_
              refine wpList_append_any rfl (.tmp 90) (.tmp 92) 25 rfl w.heap.size 54 i0 (.int .u64 0) 1 8 Tryz.underlying25 hi hz0 hz1 hz2 rfl (by omega) _ l.length (l.map uv) rfl L5.out.n (some ⟨wc.heap.size, 0, none⟩) 1 1 [.int .u64 (k : Int)] rfl (rc_newN rfl rfl) (List.all_eq_true.1 rfl) (by simp only [maxLen]; omega) (by omega) hsz5 ?_
              intro vN' w6 own6 g6 at6
              obtain ⟨l', el'⟩ : ∃ l', l ++ [k] = l' := ⟨_, rfl⟩
              have own6' : w6.ownsRow w.heap.size 54 1 vN' l'.length (l'.map uv) := by
                rw [← el', List.length_append, List.map_append]
                exact own6
              have K6 := Keeps.of_grown L5.out.n g6
              have g9 := K6.block _ _ _ _ L5.out.v9 (by decide)
              have c6 := World.cell?_of_row g9 5 (.slice vA l.length vc) rfl
              have f6 := frozen_of_row _ V9 5 _ _ g9
              have hW6 := hW5.out.keeps K6 (by decide)
              have hW7 := Lib.hid (hW6.keeps (keeps_set (i := 5) (x := vN') g9) (by decide))
              have L6 := Lib.hid (L5.out.pushN own6' g6 at6)
              obtain ⟨nA, nc, rfl, -⟩ := RT.of_owns own6'
              have hl' : Hid (l'.length = k + 1) := Lib.hid (by rw [← el', List.length_append, hl.out]; rfl)
              have hlb' : Hid (∀ v ∈ l', v ≤ 18446744073709551615) := Lib.hid (fun v hv => by
                rw [← el'] at hv
                rcases List.mem_append.1 hv with h | h
                · exact hlb.out v h
                · simp only [List.mem_cons, List.not_mem_nil, or_false] at h; omega)
              clear own6 own6' el' g6 at6 K6 g9 hW6 hW5 L5 c5 hl hlb
              go_wp2
              go_roundw
              case rel => exact ⟨k + 1, _, _, by omega, by go_num, hl', hlb', hW7, L6⟩
              case measure => simp [intOf]; omega
          · obtain rfl : k = 30 := by omega
            clear hW
            obtain ⟨gN, nc, rfl, hnc, hbN, -, -⟩ := owns_cellsN hL.out.n (by have := hl.out; omega)
            have hi29 : 29 < l.length := by have := hl.out; omega
            rw [hl.out] at hL hnc
            have hw29 : IntKind.i64.wrap 29 = 29 := by decide
            have hw30 : IntKind.i64.wrap (30 - 1) = 29 := by decide
            have hm0 : Hid (l.length = 30) := hl
            have hN64 : IntKind.u64.wrap (N0 : Int) = (N0 : Int) := by rw [IntKind.wrap_u64]; omega
            have Ld := Lib.hid (hL.out.later ((Below.refl _ wr).drew))
            obtain ⟨⟨x0, s0⟩, f0⟩ := Ld.out.cellN hm0 0 (by omega)
            obtain ⟨⟨x9, s9⟩, f9⟩ := Ld.out.cellN hm0 29 (by omega)
            have c5 := Lib.hid (World.cell?_of_row Ld.out.v9 5 _ rfl)
            have P1 : Hid (LS w ((wr.setCell ⟨gN, 0, none⟩ (.int .u64 267)).drew) w.heap.size V9 [.int .i64 (ST : Int), .int .u16 (M0 : Int), .int .u32 (T0 : Int), .int .u16 (G0 : Int), .int .i64 (32 : Int)] (l.set 0 267) [] (.slice (some ⟨gN, 0, none⟩) 30 nc) (.slice none 0 0) [] (.slice none 0 0) [] [] (.slice none 0 0) [] [] (.slice none 0 0)) := Lib.hid (Ld.out.poke hm0 0 267 (by omega))
            have hm1 : Hid ((l.set 0 267).length = 30) := Lib.hid (by simpa using hl.out)
            have P2 : Hid (LS w (((wr.setCell ⟨gN, 0, none⟩ (.int .u64 267)).setCell ⟨gN, 29, none⟩ (.int .u64 (N0 : Int))).drew) w.heap.size V9 [.int .i64 (ST : Int), .int .u16 (M0 : Int), .int .u32 (T0 : Int), .int .u16 (G0 : Int), .int .i64 (32 : Int)] ((l.set 0 267).set 29 N0) [] (.slice (some ⟨gN, 0, none⟩) 30 nc) (.slice none 0 0) [] (.slice none 0 0) [] [] (.slice none 0 0) [] [] (.slice none 0 0)) := Lib.hid (P1.out.poke hm1 29 N0 (by omega))
            have hm2 : Hid (((l.set 0 267).set 29 N0).length = 30) := Lib.hid (by simpa using hl.out)
            obtain ⟨⟨x91, s91⟩, f91⟩ := P1.out.cellN hm1 29 (by omega)
            have c51 := Lib.hid (World.cell?_of_row P1.out.v9 5 _ rfl)
            have c52 := Lib.hid (World.cell?_of_row P2.out.v9 5 _ rfl)
            go_wp2_with fail
            go_region_held3 (fun w' => w'.cell? ⟨V9, 5, none⟩ = some (.slice (some ⟨gN, 0, none⟩) 30 nc))
              (first | with_reducible exact c5.out | with_reducible exact c51.out | with_reducible exact c52.out | go_keep)
              (fail)
            obtain ⟨w7, e7⟩ : ∃ w', ((wr.setCell ⟨gN, 0, none⟩ (.int .u64 267)).setCell ⟨gN, 29, none⟩ (.int .u64 (N0 : Int))).drew = w' := ⟨_, rfl⟩
            rw [e7] at P2 c52 ⊢
            obtain ⟨l2, el2⟩ : ∃ l2, (l.set 0 267).set 29 N0 = l2 := ⟨_, rfl⟩
            rw [el2] at P2 hm2
            have hA0 : Hid (l2[0]? = some 267) := Lib.hid (by rw [← el2, List.getElem?_set_ne (by decide), List.getElem?_set_self (by have := hl.out; omega)])
            have hA9 : Hid (l2[29]? = some N0) := Lib.hid (by rw [← el2, List.getElem?_set_self (by rw [List.length_set]; have := hl.out; omega)])
            have hAb : Hid (∀ v ∈ l2, v ≤ 18446744073709551615) := Lib.hid (fun v hv => by
              rw [← el2] at hv
              rcases List.mem_or_eq_of_mem_set hv with h | h
              · rcases List.mem_or_eq_of_mem_set h with h | h
                · exact hlb.out v h
                · omega
              · omega)
            clear hw29 hw30 e7 el2 Ld P1 hL c5 c51 s0 f0 s9 f9 s91 f91 hlb hm0 hm1
            have c4 := World.cell?_of_row P2.out.v9 4 (.int .i64 (32 : Int)) rfl
            go_upto_region 21 with fail
            clear c4 c52
            go_wp2_with fail
            go_loopw [15, 115] (fun c15 i wr => ∃ (k : Nat) (d : List Nat) (vD : Value), k ≤ 2 * N0 ∧ i = .int .i64 k ∧ Hid (d.length = k) ∧ Hid (∀ v ∈ d, v ≤ 18446744073709551615) ∧
              Hid (LS w wr w.heap.size V9 [.int .i64 (ST : Int), .int .u16 (M0 : Int), .int .u32 (T0 : Int), .int .u16 (G0 : Int), .int .i64 (32 : Int)] l2 d (.slice (some ⟨gN, 0, none⟩) 30 nc) vD [] (.slice none 0 0) [] [] (.slice none 0 0) [] [] (.slice none 0 0))) (fun _ i _ => 2 * N0 - (intOf i).toNat)
            case atStart => exact ⟨0, [], .slice none 0 0, by omega, rfl, Lib.hid rfl, Lib.hid (by simp), P2⟩
            case round =>
              obtain ⟨k, d, vD, hk, rfl, hd', hdb, hL⟩ := hrel
              by_cases hkn : k < 2 * N0
              · obtain ⟨dA, dc, rfl, -, hdc, -⟩ := RT.of_owns hL.out.d
                have hdk : d.length ≤ 32 := by have := hd'.out; omega
                obtain ⟨M2, hM2, hM3⟩ : ∃ M2 : Nat, (k : Int).tmod 20 = (M2 : Int) ∧ M2 < 20 := ⟨k % 20, by rw [Int.tmod_eq_emod_of_nonneg (by omega)]; omega, by omega⟩
                obtain ⟨X2, hX2, hX3⟩ : ∃ X2 : Nat, (F : Int) / 2 ^ M2 = (X2 : Int) ∧ X2 < 4294967296 := ⟨F / 2 ^ M2, by simp, Nat.lt_of_le_of_lt (Nat.div_le_self _ _) hF⟩
                have c6 := World.cell?_of_row hL.out.v9 6 (.slice dA d.length dc) rfl
                have hwX : IntKind.u64.wrap (X2 : Int) = (X2 : Int) := by rw [IntKind.wrap_u64]; omega
                go_upto_region 24 with fail
                have L5 := Lib.hid (hL.out.later (((Below.refl _ wr).alloc (Nat.le_refl _) (.cells #[.int .u64 (X2 : Int)] 54)).drew))
                have RC5 : Hid (RC ((wr.alloc (.cells #[.int .u64 (X2 : Int)] 54)).drew) (some ⟨wr.heap.size, 0, none⟩) 1 1 [.int .u64 (X2 : Int)]) := Lib.hid (rc_later (rc_newN rfl rfl) ((Below.refl _ _).drew))
                have c65 := World.cell?_of_row L5.out.v9 6 (.slice dA d.length dc) rfl
                have hsz5 : w.heap.size ≤ ((wr.alloc (.cells #[.int .u64 (X2 : Int)] 54)).drew).heap.size := L5.out.bw.size
                go_region_law (first
                  | (refine step_append_any (by rfl) (.tmp 119) (.tmp 125) 25 (by rfl) w.heap.size 54 i0 (.int .u64 0) 1 8 Tryz.underlying25 hi hz0 hz1 hz2 rfl (by omega) _ d.length (d.map uv) (by rfl) L5.out.d (some ⟨wr.heap.size, 0, none⟩) 1 1 [.int .u64 (X2 : Int)] (by rfl) RC5.out (List.all_eq_true.1 rfl) (by simp only [maxLen]; omega) (by omega) hsz5 ?_; intro vD' w6 own6 g6 at6; obtain ⟨nA2, nc2, rfl, -⟩ := RT.of_owns own6; have K6 := Keeps.of_grown L5.out.d g6; have g9 := K6.block _ _ _ _ L5.out.v9 (by decide); have c66 := World.cell?_of_row g9 6 (.slice dA d.length dc) rfl; have f66 := frozen_of_row _ V9 6 _ _ g9)
                  | fail)
                all_goals
                  obtain ⟨d', ed'⟩ : ∃ d', d ++ [X2] = d' := ⟨_, rfl⟩
                  have own6' : w6.ownsRow w.heap.size 54 1 (.slice nA2 (d.length + 1) nc2) d'.length (d'.map uv) := by
                    rw [← ed', List.length_append, List.map_append]
                    exact own6
                  have L6 := Lib.hid (L5.out.pushD own6' g6 at6)
                  have hd'' : Hid (d'.length = k + 1) := Lib.hid (by rw [← ed', List.length_append, hd'.out]; rfl)
                  have hdb' : Hid (∀ v ∈ d', v ≤ 18446744073709551615) := Lib.hid (fun v hv => by
                    rw [← ed'] at hv
                    rcases List.mem_append.1 hv with h | h
                    · exact hdb.out v h
                    · simp only [List.mem_cons, List.not_mem_nil, or_false] at h; omega)
                  clear own6 own6' ed' g6 at6 K6 g9 L5 RC5 c65 c66 f66 hd' hdb hwX hX2 hM2 hL c6
                  go_wp2
                  go_roundw
                  case rel => exact ⟨k + 1, d', _, by omega, by go_num, hd'', hdb', L6⟩
                  case measure => simp [intOf]; omega
              · obtain rfl : k = 2 * N0 := by omega
                go_wp2_with fail
                go_meet
                case rel => exact ⟨l2, d, _, vD, hL, Lib.hid ⟨.inr (.inl ⟨rfl, hm2.out, hA0.out⟩), fun _ => ⟨N0, hN0, hd'.out, by rw [hm2.out]; exact hA9.out⟩, fun h => absurd h (by decide), hAb.out, hdb.out⟩⟩
        --]K32
      ·
        --[K64
        have c44 := World.cell?_of_row L3.out.v9 4 (.int .i64 (64 : Int)) rfl
        go_wp2_with fail
        refine (peOptionalT_true _).mono ?_
        rintro e w4 ⟨⟨vw, cw, rfl, hcw, RW⟩, b4⟩
        have L4 := Lib.hid (L3.out.later b4)
        obtain ⟨gW, oW, rfl, hgW⟩ := RW.out.lt (by omega)
        clear b4 L3 c44
        obtain ⟨N0, hN, hN0⟩ : ∃ N0 : Nat, (F : Int) / 65536 % 17 = (N0 : Int) ∧ N0 ≤ 16 := ⟨F / 65536 % 17, by omega, by omega⟩
        obtain ⟨i0, hi, hz0, hz1, hz2⟩ := info_parts Tryz.info64
        go_upto_region 8 with fail
        clear hN
        go_wp2_with fail
        go_loopw [12, 13, 14, 64] (fun c12 c13 c14 i wr => ∃ (k : Nat) (l : List Nat) (vN : Value), k ≤ 29 ∧ i = .int .i64 k ∧ Hid (l.length = k) ∧ Hid (∀ v ∈ l, v ≤ 18446744073709551615) ∧ Hid (RT wr 3 (some ⟨gW, oW, none⟩) 1 29 (optW64.map iv)) ∧
          Hid (LS w wr w.heap.size V9 [.int .i64 (ST : Int), .int .u16 (M0 : Int), .int .u32 (T0 : Int), .int .u16 (G0 : Int), .int .i64 (64 : Int)] l [] vN (.slice none 0 0) [] (.slice none 0 0) [] [] (.slice none 0 0) [] [] (.slice none 0 0))) (fun _ _ _ i _ => 29 - (intOf i).toNat)
        case atStart => exact ⟨0, [], .slice none 0 0, by omega, rfl, Lib.hid rfl, Lib.hid (by simp), RW, L4⟩
        case round =>
          obtain ⟨k, l, vN, hk, rfl, hl, hlb, hW, hL⟩ := hrel
          by_cases hkn : k < 29
          · obtain ⟨x, hx, hxs⟩ : ∃ x : Int, (optW64.map iv)[k]? = some (.int .i64 x) ∧ (x = 1 ∨ x = 2 ∨ x = 4 ∨ x = 8) := by
              have hlen : optW64.length = 29 := rfl
              have h1 : optW64[k]? = some optW64[k] := List.getElem?_eq_getElem (by omega)
              have h2 : ∀ x ∈ optW64, x = 1 ∨ x = 2 ∨ x = 4 ∨ x = 8 := by decide
              exact ⟨optW64[k], by rw [List.getElem?_map, h1]; rfl, h2 _ (List.getElem_mem _)⟩
            obtain ⟨g', o', e', q0⟩ := hW.out.at hx
            simp only [Option.some.injEq, Addr.mk.injEq, and_true] at e'
            obtain ⟨rfl, rfl⟩ := e'
            obtain ⟨vA, vc, rfl, -, hvc, -⟩ := RT.of_owns hL.out.n
            have hlk : l.length ≤ 30 := by have := hl.out; omega
            have hk256 : (k : Int) % 256 = (k : Int) := by omega
            have hk655 : (k : Int) % 65536 = (k : Int) := by omega
            go_upto_if 83 with fail
            go_cut [14] from 82 to 88 (fun c14 wx => c14 = .int .u64 (k : Int) ∧ wx = wr)
            case first =>
              rcases hxs with rfl | rfl | rfl | rfl
              · go_wp2_with fail
                go_meet
                case rel => exact ⟨by first | rfl | rw [hk256] | rw [hk655], rfl⟩
              · go_wp2_with fail
                go_meet
                case rel => exact ⟨by first | rfl | rw [hk256] | rw [hk655], rfl⟩
              · go_wp2_with fail
                go_meet
                case rel => exact ⟨by first | rfl | rw [hk256] | rw [hk655], rfl⟩
              · go_wp2_with fail
                go_meet
                case rel => exact ⟨by first | rfl | rw [hk256] | rw [hk655], rfl⟩
            case rest =>
              obtain ⟨rfl, rfl⟩ := hcut
              clear hk256 hk655 q0 hx hxs
              have L5 := Lib.hid (hL.out.later ((Below.refl _ wc).alloc (Nat.le_refl _) (.cells #[.int .u64 (k : Int)] 54)))
              have hW5 := Lib.hid (hW.out.later ((Below.refl _ wc).alloc (Nat.le_refl _) (.cells #[.int .u64 (k : Int)] 54)))
              have c5 := World.cell?_of_row hL.out.v9 5 (.slice vA l.length vc) rfl
              have hsz5 := L5.out.bw.size
              clear hL hW
              go_wp2_with (at_builtin; refine Stop.mk ?_)
              refine Stop.go ?_
              refine wpList_append_any rfl (.tmp 90) (.tmp 92) 25 rfl w.heap.size 54 i0 (.int .u64 0) 1 8 Tryz.underlying25 hi hz0 hz1 hz2 rfl (by omega) _ l.length (l.map uv) rfl L5.out.n (some ⟨wc.heap.size, 0, none⟩) 1 1 [.int .u64 (k : Int)] rfl (rc_newN rfl rfl) (List.all_eq_true.1 rfl) (by simp only [maxLen]; omega) (by omega) hsz5 ?_
              intro vN' w6 own6 g6 at6
              obtain ⟨l', el'⟩ : ∃ l', l ++ [k] = l' := ⟨_, rfl⟩
              have own6' : w6.ownsRow w.heap.size 54 1 vN' l'.length (l'.map uv) := by
                rw [← el', List.length_append, List.map_append]
                exact own6
              have K6 := Keeps.of_grown L5.out.n g6
              have g9 := K6.block _ _ _ _ L5.out.v9 (by decide)
              have c6 := World.cell?_of_row g9 5 (.slice vA l.length vc) rfl
              have f6 := frozen_of_row _ V9 5 _ _ g9
              have hW6 := hW5.out.keeps K6 (by decide)
              have hW7 := Lib.hid (hW6.keeps (keeps_set (i := 5) (x := vN') g9) (by decide))
              have L6 := Lib.hid (L5.out.pushN own6' g6 at6)
              obtain ⟨nA, nc, rfl, -⟩ := RT.of_owns own6'
              have hl' : Hid (l'.length = k + 1) := Lib.hid (by rw [← el', List.length_append, hl.out]; rfl)
              have hlb' : Hid (∀ v ∈ l', v ≤ 18446744073709551615) := Lib.hid (fun v hv => by
                rw [← el'] at hv
                rcases List.mem_append.1 hv with h | h
                · exact hlb.out v h
                · simp only [List.mem_cons, List.not_mem_nil, or_false] at h; omega)
              clear own6 own6' el' g6 at6 K6 g9 hW6 hW5 L5 c5 hl hlb
              go_wp2
              go_roundw
              case rel => exact ⟨k + 1, _, _, by omega, by go_num, hl', hlb', hW7, L6⟩
              case measure => simp [intOf]; omega
          · obtain rfl : k = 29 := by omega
            clear hW
            obtain ⟨gN, nc, rfl, hnc, hbN, -, -⟩ := owns_cellsN hL.out.n (by have := hl.out; omega)
            have hi29 : 28 < l.length := by have := hl.out; omega
            rw [hl.out] at hL hnc
            have hw29 : IntKind.i64.wrap 28 = 28 := by decide
            have hw30 : IntKind.i64.wrap (29 - 1) = 28 := by decide
            have hm0 : Hid (l.length = 29) := hl
            have hN64 : IntKind.u64.wrap (N0 : Int) = (N0 : Int) := by rw [IntKind.wrap_u64]; omega
            have Ld := Lib.hid (hL.out.later ((Below.refl _ wr).drew))
            obtain ⟨⟨x0, s0⟩, f0⟩ := Ld.out.cellN hm0 0 (by omega)
            obtain ⟨⟨x9, s9⟩, f9⟩ := Ld.out.cellN hm0 28 (by omega)
            have c5 := Lib.hid (World.cell?_of_row Ld.out.v9 5 _ rfl)
            have P1 : Hid (LS w ((wr.setCell ⟨gN, 0, none⟩ (.int .u64 267)).drew) w.heap.size V9 [.int .i64 (ST : Int), .int .u16 (M0 : Int), .int .u32 (T0 : Int), .int .u16 (G0 : Int), .int .i64 (64 : Int)] (l.set 0 267) [] (.slice (some ⟨gN, 0, none⟩) 29 nc) (.slice none 0 0) [] (.slice none 0 0) [] [] (.slice none 0 0) [] [] (.slice none 0 0)) := Lib.hid (Ld.out.poke hm0 0 267 (by omega))
            have hm1 : Hid ((l.set 0 267).length = 29) := Lib.hid (by simpa using hl.out)
            have P2 : Hid (LS w (((wr.setCell ⟨gN, 0, none⟩ (.int .u64 267)).setCell ⟨gN, 28, none⟩ (.int .u64 (N0 : Int))).drew) w.heap.size V9 [.int .i64 (ST : Int), .int .u16 (M0 : Int), .int .u32 (T0 : Int), .int .u16 (G0 : Int), .int .i64 (64 : Int)] ((l.set 0 267).set 28 N0) [] (.slice (some ⟨gN, 0, none⟩) 29 nc) (.slice none 0 0) [] (.slice none 0 0) [] [] (.slice none 0 0) [] [] (.slice none 0 0)) := Lib.hid (P1.out.poke hm1 28 N0 (by omega))
            have hm2 : Hid (((l.set 0 267).set 28 N0).length = 29) := Lib.hid (by simpa using hl.out)
            obtain ⟨⟨x91, s91⟩, f91⟩ := P1.out.cellN hm1 28 (by omega)
            have c51 := Lib.hid (World.cell?_of_row P1.out.v9 5 _ rfl)
            have c52 := Lib.hid (World.cell?_of_row P2.out.v9 5 _ rfl)
            go_wp2_with fail
            go_region_held3 (fun w' => w'.cell? ⟨V9, 5, none⟩ = some (.slice (some ⟨gN, 0, none⟩) 29 nc))
              (first | with_reducible exact c5.out | with_reducible exact c51.out | with_reducible exact c52.out | go_keep)
              (fail)
            obtain ⟨w7, e7⟩ : ∃ w', ((wr.setCell ⟨gN, 0, none⟩ (.int .u64 267)).setCell ⟨gN, 28, none⟩ (.int .u64 (N0 : Int))).drew = w' := ⟨_, rfl⟩
            rw [e7] at P2 c52 ⊢
            obtain ⟨l2, el2⟩ : ∃ l2, (l.set 0 267).set 28 N0 = l2 := ⟨_, rfl⟩
            rw [el2] at P2 hm2
            have hA0 : Hid (l2[0]? = some 267) := Lib.hid (by rw [← el2, List.getElem?_set_ne (by decide), List.getElem?_set_self (by have := hl.out; omega)])
            have hA9 : Hid (l2[28]? = some N0) := Lib.hid (by rw [← el2, List.getElem?_set_self (by rw [List.length_set]; have := hl.out; omega)])
            have hAb : Hid (∀ v ∈ l2, v ≤ 18446744073709551615) := Lib.hid (fun v hv => by
              rw [← el2] at hv
              rcases List.mem_or_eq_of_mem_set hv with h | h
              · rcases List.mem_or_eq_of_mem_set h with h | h
                · exact hlb.out v h
                · omega
              · omega)
            clear hw29 hw30 e7 el2 Ld P1 hL c5 c51 s0 f0 s9 f9 s91 f91 hlb hm0 hm1
            have c4 := World.cell?_of_row P2.out.v9 4 (.int .i64 (64 : Int)) rfl
            have c5 := World.cell?_of_row P2.out.v9 5 (.slice (some ⟨gN, 0, none⟩) 29 nc) rfl
            obtain ⟨⟨x0, s0⟩, f0⟩ := P2.out.cellN hm2 0 (by omega)
            go_upto_region 21 with fail
            have P3 : Hid (LS w (w7.setCell ⟨gN, 0, none⟩ (.int .u64 523)) w.heap.size V9 [.int .i64 (ST : Int), .int .u16 (M0 : Int), .int .u32 (T0 : Int), .int .u16 (G0 : Int), .int .i64 (64 : Int)] (l2.set 0 523) [] (.slice (some ⟨gN, 0, none⟩) 29 nc) (.slice none 0 0) [] (.slice none 0 0) [] [] (.slice none 0 0) [] [] (.slice none 0 0)) := Lib.hid (P2.out.poke hm2 0 523 (by omega))
            have hm3 : Hid ((l2.set 0 523).length = 29) := Lib.hid (by simpa using hm2.out)
            obtain ⟨l3, el3⟩ : ∃ l3, l2.set 0 523 = l3 := ⟨_, rfl⟩
            rw [el3] at P3 hm3
            have hB0 : Hid (l3[0]? = some 523) := Lib.hid (by rw [← el3, List.getElem?_set_self (by have := hm2.out; omega)])
            have hB9 : Hid (l3[28]? = some N0) := Lib.hid (by rw [← el3, List.getElem?_set_ne (by decide)]; exact hA9.out)
            have hBb : Hid (∀ v ∈ l3, v ≤ 18446744073709551615) := Lib.hid (fun v hv => by
              rw [← el3] at hv
              rcases List.mem_or_eq_of_mem_set hv with h | h
              · exact hAb.out v h
              · omega)
            obtain ⟨w8, e8⟩ : ∃ w', w7.setCell ⟨gN, 0, none⟩ (.int .u64 523) = w' := ⟨_, rfl⟩
            rw [e8] at P3 ⊢
            clear e8 el3 P2 c5 s0 f0 hA0 hA9 hAb c4 c52 hm2
            go_wp2_with fail
            go_loopw [15, 115] (fun c15 i wr => ∃ (k : Nat) (d : List Nat) (vD : Value), k ≤ 2 * N0 ∧ i = .int .i64 k ∧ Hid (d.length = k) ∧ Hid (∀ v ∈ d, v ≤ 18446744073709551615) ∧
              Hid (LS w wr w.heap.size V9 [.int .i64 (ST : Int), .int .u16 (M0 : Int), .int .u32 (T0 : Int), .int .u16 (G0 : Int), .int .i64 (64 : Int)] l3 d (.slice (some ⟨gN, 0, none⟩) 29 nc) vD [] (.slice none 0 0) [] [] (.slice none 0 0) [] [] (.slice none 0 0))) (fun _ i _ => 2 * N0 - (intOf i).toNat)
            case atStart => exact ⟨0, [], .slice none 0 0, by omega, rfl, Lib.hid rfl, Lib.hid (by simp), P3⟩
            case round =>
              obtain ⟨k, d, vD, hk, rfl, hd', hdb, hL⟩ := hrel
              by_cases hkn : k < 2 * N0
              · obtain ⟨dA, dc, rfl, -, hdc, -⟩ := RT.of_owns hL.out.d
                have hdk : d.length ≤ 32 := by have := hd'.out; omega
                obtain ⟨M2, hM2, hM3⟩ : ∃ M2 : Nat, (k : Int).tmod 20 = (M2 : Int) ∧ M2 < 20 := ⟨k % 20, by rw [Int.tmod_eq_emod_of_nonneg (by omega)]; omega, by omega⟩
                obtain ⟨X2, hX2, hX3⟩ : ∃ X2 : Nat, (F : Int) / 2 ^ M2 = (X2 : Int) ∧ X2 < 4294967296 := ⟨F / 2 ^ M2, by simp, Nat.lt_of_le_of_lt (Nat.div_le_self _ _) hF⟩
                have c6 := World.cell?_of_row hL.out.v9 6 (.slice dA d.length dc) rfl
                have hwX : IntKind.u64.wrap (X2 : Int) = (X2 : Int) := by rw [IntKind.wrap_u64]; omega
                go_upto_region 24 with fail
                have L5 := Lib.hid (hL.out.later (((Below.refl _ wr).alloc (Nat.le_refl _) (.cells #[.int .u64 (X2 : Int)] 54)).drew))
                have RC5 : Hid (RC ((wr.alloc (.cells #[.int .u64 (X2 : Int)] 54)).drew) (some ⟨wr.heap.size, 0, none⟩) 1 1 [.int .u64 (X2 : Int)]) := Lib.hid (rc_later (rc_newN rfl rfl) ((Below.refl _ _).drew))
                have c65 := World.cell?_of_row L5.out.v9 6 (.slice dA d.length dc) rfl
                have hsz5 : w.heap.size ≤ ((wr.alloc (.cells #[.int .u64 (X2 : Int)] 54)).drew).heap.size := L5.out.bw.size
                go_region_law (first
                  | (refine step_append_any (by rfl) (.tmp 119) (.tmp 125) 25 (by rfl) w.heap.size 54 i0 (.int .u64 0) 1 8 Tryz.underlying25 hi hz0 hz1 hz2 rfl (by omega) _ d.length (d.map uv) (by rfl) L5.out.d (some ⟨wr.heap.size, 0, none⟩) 1 1 [.int .u64 (X2 : Int)] (by rfl) RC5.out (List.all_eq_true.1 rfl) (by simp only [maxLen]; omega) (by omega) hsz5 ?_; intro vD' w6 own6 g6 at6; obtain ⟨nA2, nc2, rfl, -⟩ := RT.of_owns own6; have K6 := Keeps.of_grown L5.out.d g6; have g9 := K6.block _ _ _ _ L5.out.v9 (by decide); have c66 := World.cell?_of_row g9 6 (.slice dA d.length dc) rfl; have f66 := frozen_of_row _ V9 6 _ _ g9)
                  | fail)
                all_goals
                  obtain ⟨d', ed'⟩ : ∃ d', d ++ [X2] = d' := ⟨_, rfl⟩
                  have own6' : w6.ownsRow w.heap.size 54 1 (.slice nA2 (d.length + 1) nc2) d'.length (d'.map uv) := by
                    rw [← ed', List.length_append, List.map_append]
                    exact own6
                  have L6 := Lib.hid (L5.out.pushD own6' g6 at6)
                  have hd'' : Hid (d'.length = k + 1) := Lib.hid (by rw [← ed', List.length_append, hd'.out]; rfl)
                  have hdb' : Hid (∀ v ∈ d', v ≤ 18446744073709551615) := Lib.hid (fun v hv => by
                    rw [← ed'] at hv
                    rcases List.mem_append.1 hv with h | h
                    · exact hdb.out v h
                    · simp only [List.mem_cons, List.not_mem_nil, or_false] at h; omega)
                  clear own6 own6' ed' g6 at6 K6 g9 L5 RC5 c65 c66 f66 hd' hdb hwX hX2 hM2 hL c6
                  go_wp2
                  go_roundw
                  case rel => exact ⟨k + 1, d', _, by omega, by go_num, hd'', hdb', L6⟩
                  case measure => simp [intOf]; omega
              · obtain rfl : k = 2 * N0 := by omega
                go_wp2_with fail
                go_meet
                case rel => exact ⟨l3, d, _, vD, hL, Lib.hid ⟨.inr (.inr ⟨rfl, hm3.out, hB0.out⟩), fun _ => ⟨N0, hN0, hd'.out, by rw [hm3.out]; exact hB9.out⟩, fun h => absurd h (by decide), hBb.out, hdb.out⟩⟩
        --]K64
      --KIND>
    case rest =>
      obtain ⟨nums, dirs, vN, vD, L4, OV⟩ := hcut
      clear hK0 hJ33
      obtain ⟨NB, hNB, hNB4, hNBl⟩ : ∃ NB : Nat, min (ps.length : Int) 6 = (NB : Int) ∧ NB ≤ 6 ∧ NB ≤ ps.length := ⟨min ps.length 6, by omega, by omega, by omega⟩
      have hsl : ∀ W, (Instr.slice 23 (.slice PA ps.length pc) none (some (.int .i64 (NB : Int))) none).run Tryz.prog W = .ok (.slice PA NB pc) W := fun W => run_slice_to Tryz.underlying23 (info_parts Tryz.infoU32).choose_spec.1 PA ps.length pc NB (by omega) W
      go_upto_region 26 with fail
      go_wp2_with fail
      refine wp_loop_rounds 1 ?_
      rw [rounds_succ]
      go_wp2_with fail
      go_loopw [22, 211] (fun c22 i wr => ∃ (k : Nat) (syms : List SymL) (vS : Value) (svs : List Value) (xs : List Nat) (vX : Value), k ≤ NB ∧ i = .int .i64 k ∧ Hid (syms.length = k) ∧ Hid (xs = syms.map (·.aux)) ∧ Hid (∀ y ∈ syms, SymOk y) ∧
        Hid (LS w wr w.heap.size V9 [.int .i64 (ST : Int), .int .u16 (M0 : Int), .int .u32 (T0 : Int), .int .u16 (G0 : Int), .int .i64 (K : Int)] nums dirs vN vD [] (.slice none 0 0) [] syms vS svs xs vX)) (fun _ i _ => NB - (intOf i).toNat)
      case atStart => exact ⟨0, [], .slice none 0 0, [], [], .slice none 0 0, by omega, rfl, Lib.hid rfl, Lib.hid rfl, Lib.hid (by simp), L4⟩
      case round =>
        clear L4
        obtain ⟨k, syms, vS, svs, xs, vX, hk, rfl, hsl', hxs, hso, hL⟩ := hrel
        by_cases hkn : k < NB
        ·
          --[RS
          obtain ⟨n, hn⟩ : ∃ n, ps[k]? = some n := ⟨_, List.getElem?_eq_getElem (by omega)⟩
          have hn32 : n < 4294967296 := hpb.out n (List.mem_of_getElem? hn)
          have RCk := rc_later hp.out hL.out.bw
          obtain ⟨a2, rfl, -⟩ := RCk.2 (by omega)
          have q0 := rc_get RCk rfl hn
          clear RCk
          replace hn := Lib.hid hn
          obtain ⟨K1, hK1, hK20⟩ : ∃ K1 : Nat, (n : Int).tmod 20 = (K1 : Int) ∧ K1 < 20 := ⟨n % 20, by rw [Int.tmod_eq_emod_of_nonneg (by omega)]; omega, by omega⟩
          obtain ⟨N4, hN4⟩ : ∃ N4 : Nat, (n : Int) / 16 = (N4 : Int) := ⟨n / 16, by omega⟩
          obtain ⟨N7, hN7⟩ : ∃ N7 : Nat, (n : Int) / 128 = (N7 : Int) := ⟨n / 128, by omega⟩
          obtain ⟨N9, hN9, hN93⟩ : ∃ N9 : Nat, ((n : Int) / 512).tmod 3 = (N9 : Int) ∧ N9 < 3 := ⟨n / 512 % 3, by rw [Int.tmod_eq_emod_of_nonneg (by omega)]; omega, by omega⟩
          obtain ⟨I0, hI0, hI1, hI2⟩ : ∃ I0 : Int, IntKind.i16.wrap (N4 : Int) = I0 ∧ -32768 ≤ I0 ∧ I0 < 32768 := ⟨_, rfl, (i16_wrap _).1, (i16_wrap _).2⟩
          obtain ⟨T1, hT1, hT2⟩ : ∃ T1 : Nat, IntKind.u16.wrap (N7 : Int) = (T1 : Int) ∧ T1 < 65536 := ⟨N7 % 65536, by rw [IntKind.wrap_u16]; omega, by omega⟩
          obtain ⟨C1, hC1, hC2⟩ : ∃ C1 : Nat, 2 + (N9 : Int) = (C1 : Int) ∧ C1 < 5 := ⟨2 + N9, by omega, by omega⟩
          have hC3 : IntKind.u8.wrap (C1 : Int) = (C1 : Int) := by rw [IntKind.wrap_u8]; omega
          have hC4 : IntKind.u32.wrap (C1 : Int) = (C1 : Int) := by rw [IntKind.wrap_u32]; omega
          have hK2 : IntKind.u32.wrap (1 + (K1 : Int)) = 1 + (K1 : Int) := by rw [IntKind.wrap_u32]; omega
          have hst := symSlice K1 hK20
          obtain ⟨nm, enm⟩ : ∃ nm, symTxt.take (K1 + 1) = nm := ⟨_, rfl⟩
          rw [enm] at hst
          have hnm := Lib.hid (enm ▸ symTxt_ok hK20)
          clear enm
          obtain ⟨sA, sc, rfl, -, hsc, -⟩ := RT.of_owns hL.out.s
          have hsl6 : syms.length ≤ 6 := by have := hsl'.out; omega
          obtain ⟨iS, hiS, hS0, hS1, hS2⟩ := info_parts Tryz.infoPSym
          have c8 := World.cell?_of_row hL.out.v9 8 (.slice sA syms.length sc) rfl
          go_upto_region 45 with fail
          have L5 := Lib.hid (hL.out.later (((Below.refl _ wr).alloc (Nat.le_refl _) (.cells #[.string ⟨nm.toArray⟩, .int .u32 (n : Int), .int .i16 I0, .int .u16 (T1 : Int), .int .u8 (C1 : Int)] 45)).drew))
          have RC5 : Hid (RC ((wr.alloc (.cells #[.string ⟨nm.toArray⟩, .int .u32 (n : Int), .int .i16 I0, .int .u16 (T1 : Int), .int .u8 (C1 : Int)] 45)).drew) (some ⟨wr.heap.size, 0, none⟩) 5 1 [.string ⟨nm.toArray⟩, .int .u32 (n : Int), .int .i16 I0, .int .u16 (T1 : Int), .int .u8 (C1 : Int)]) := Lib.hid (rc_later (rc_newN rfl rfl) ((Below.refl _ _).drew))
          have c85 := World.cell?_of_row L5.out.v9 8 (.slice sA syms.length sc) rfl
          have hsz5 : w.heap.size ≤ ((wr.alloc (.cells #[.string ⟨nm.toArray⟩, .int .u32 (n : Int), .int .i16 I0, .int .u16 (T1 : Int), .int .u8 (C1 : Int)] 45)).drew).heap.size := L5.out.bw.size
          go_region_law (first
            | (refine step_append_any (by rfl) (.tmp 216) (.tmp 234) 27 (by rfl) w.heap.size 45 iS _ 5 32 Tryz.underlying27 hiS hS0 hS1 hS2 rfl (by omega) _ syms.length svs (by rfl) L5.out.s (some ⟨wr.heap.size, 0, none⟩) 1 1 [.string ⟨nm.toArray⟩, .int .u32 (n : Int), .int .i16 I0, .int .u16 (T1 : Int), .int .u8 (C1 : Int)] (by rfl) RC5.out (List.all_eq_true.1 rfl) (by simp only [maxLen]; omega) (by omega) hsz5 ?_; intro vS' w6 own6 g6 at6; obtain ⟨nA2, nc2, rfl, -⟩ := RT.of_owns own6; have K6 := Keeps.of_grown L5.out.s g6; have g9 := K6.block _ _ _ _ L5.out.v9 (by decide); have c66 := World.cell?_of_row g9 8 (.slice sA syms.length sc) rfl; have f66 := frozen_of_row _ V9 8 _ _ g9)
            | fail)
          all_goals
            obtain ⟨X1, hX1, hX2⟩ : ∃ X1 : Nat, (n : Int) / 2048 % 3 = (X1 : Int) ∧ X1 < 3 := ⟨n / 2048 % 3, by omega, by omega⟩
            obtain ⟨sy', esy⟩ : ∃ sy', syms ++ [(⟨nm, n, I0, T1, C1, X1⟩ : SymL)] = sy' := ⟨_, rfl⟩
            have L6 := L5.out.pushS (y := ⟨nm, n, I0, T1, C1, X1⟩) own6 g6 rfl ⟨rfl, hn32, hI1, hI2, hT2, by show C1 < 256; omega⟩
            rw [esy] at L6
            have hsl'' : Hid (sy'.length = k + 1) := Lib.hid (by rw [← esy, List.length_append, hsl'.out]; rfl)
            have hso' : Hid (∀ y ∈ sy', SymOk y) := Lib.hid (fun y hy => by
              rw [← esy] at hy
              rcases List.mem_append.1 hy with h | h
              · exact hso.out y h
              · simp only [List.mem_cons, List.not_mem_nil, or_false] at h
                rw [h]
                exact ⟨hnm.out.2.1, by show nm.length ≤ 20; rw [hnm.out.1]; omega, hnm.out.2.2, by show X1 ≤ 2; omega⟩)
            have hxs' : Hid (xs ++ [X1] = sy'.map (·.aux)) := Lib.hid (by rw [← esy, List.map_append, hxs.out]; rfl)
            replace L6 := Lib.hid L6
            obtain ⟨w7, e7⟩ : ∃ w7, w6.setCell ⟨V9, 8, none⟩ (.slice nA2 (syms.length + 1) nc2) = w7 := ⟨_, rfl⟩
            rw [e7] at L6 ⊢
            clear e7 esy own6 g6 at6 K6 g9 c66 f66 L5 RC5 c85 hsz5 c8 hL hsl' hxs hso hnm hn hst
            obtain ⟨xA, xc, rfl, -, hxc, -⟩ := RT.of_owns L6.out.x
            obtain ⟨iX, hiX, hX0, hX1', hX2'⟩ := info_parts Tryz.infoInt
            have hxl : xs.length ≤ 8 := by
              have h1 := congrArg List.length hxs'.out
              rw [List.length_append, List.length_map, hsl''.out] at h1
              simp at h1
              omega
            have c9 := World.cell?_of_row L6.out.v9 9 (.slice xA xs.length xc) rfl
            have L7 := Lib.hid (L6.out.later ((Below.refl _ w7).alloc (Nat.le_refl _) (.cells #[.int .i64 (X1 : Int)] 3)))
            have hsz7 : w.heap.size ≤ (w7.alloc (.cells #[.int .i64 (X1 : Int)] 3)).heap.size := L7.out.bw.size
            go_wp2_with (at_builtin; refine Stop.mk ?_)
            refine Stop.go ?_
            refine wpList_append_any rfl (.tmp 238) (.tmp 243) 28 rfl w.heap.size 3 iX (.int .i64 0) 1 8 Tryz.underlying28 hiX hX0 hX1' hX2' rfl (by omega) _ xs.length (xs.map fun n : Nat => Value.int .i64 n) rfl L7.out.x (some ⟨w7.heap.size, 0, none⟩) 1 1 [.int .i64 (X1 : Int)] rfl (rc_newN rfl rfl) (List.all_eq_true.1 rfl) (by simp only [maxLen]; omega) (by omega) hsz7 ?_
            intro vX' w8 own8 g8 at8
            obtain ⟨xs', exs⟩ : ∃ xs', xs ++ [X1] = xs' := ⟨_, rfl⟩
            have own8' : w8.ownsRow w.heap.size 3 1 vX' xs'.length (xs'.map fun n : Nat => Value.int .i64 n) := by
              rw [← exs, List.length_append, List.map_append]
              exact own8
            rw [exs] at hxs'
            have K8 := Keeps.of_grown L7.out.x g8
            have g98 := K8.block _ _ _ _ L7.out.v9 (by decide)
            have c98 := World.cell?_of_row g98 9 (.slice xA xs.length xc) rfl
            have f98 := frozen_of_row _ V9 9 _ _ g98
            have L8 := Lib.hid (L7.out.pushX own8' g8)
            obtain ⟨xA2, xc2, rfl, -⟩ := RT.of_owns own8'
            clear exs own8 own8' g8 at8 K8 g98 L7 L6 c9 hX1
            go_wp2
            go_roundw
            case rel => exact ⟨k + 1, sy', _, _, xs', _, by omega, by go_num, hsl'', hxs', hso', L8⟩
            case measure => simp [intOf]; omega
          --]RS
        · obtain rfl : k = NB := by omega
          clear hNB hsl hpc hpb hp
          obtain ⟨nA, nc, rfl, RN9, hnc, -⟩ := RT.of_owns hL.out.n
          obtain ⟨dA, dc, rfl, RD9, hdc, -⟩ := RT.of_owns hL.out.d
          obtain ⟨sA, sc, rfl, RS9, -⟩ := RT.of_owns hL.out.s
          obtain ⟨xA, xc, rfl, RX9, -⟩ := RT.of_owns hL.out.x
          have hxl : Hid (xs.length = syms.length) := Lib.hid (by rw [hxs.out, List.length_map])
          have hsl6 : Hid (syms.length ≤ 6) := Lib.hid (by have := hsl'.out; omega)
          clear hsl'
          have d0 := World.cell?_of_row hL.out.v9 0 (.int .i64 (ST : Int)) rfl
          have d1 := World.cell?_of_row hL.out.v9 1 (.int .u16 (M0 : Int)) rfl
          have d2 := World.cell?_of_row hL.out.v9 2 (.int .u32 (T0 : Int)) rfl
          have d3 := World.cell?_of_row hL.out.v9 3 (.int .u16 (G0 : Int)) rfl
          have d4 := World.cell?_of_row hL.out.v9 4 (.int .i64 (K : Int)) rfl
          have d5 := World.cell?_of_row hL.out.v9 5 (.slice nA nums.length nc) rfl
          have d6 := World.cell?_of_row hL.out.v9 6 (.slice dA dirs.length dc) rfl
          have d7 := World.cell?_of_row hL.out.v9 7 (.slice none 0 0) rfl
          have d8 := World.cell?_of_row hL.out.v9 8 (.slice sA syms.length sc) rfl
          have d9 := World.cell?_of_row hL.out.v9 9 (.slice xA xs.length xc) rfl
          rw [hxl.out] at d9 RX9
          obtain ⟨c8, hc8, g8⟩ := hL.out.v8
          have bw := hL.out.bw
          have hxm : xs.map (fun n : Nat => Value.int .i64 n) = syms.map fun y => Value.int .i64 y.aux := by rw [hxs.out, List.map_map]; rfl
          rw [hxm] at RX9
          have M9 : MadeV wr ⟨K, nums, nA, nc, dirs, dA, dc, none, 0, [], sA, sc, svs, xA, xc⟩ ⟨ST, M0, T0, G0, optB K nums dirs, [], syms⟩ :=
            ⟨rfl, OV.out, RN9, hnc, RD9, hdc, RT.empty _ _ _ _, Recs.nil _ _ _, RS9, hL.out.sr, RX9⟩
          have MO : MadeOk ⟨ST, M0, T0, G0, optB K nums dirs, [], syms⟩ := ⟨hST, hM1.out, hT0, hG0, Nat.zero_le _, fun y hy => by simp at hy, hsl6.out, hso.out⟩
          replace M9 := Lib.hid M9
          replace MO := Lib.hid MO
          replace g8 := Lib.hid g8
          replace hc8 := Lib.hid hc8
          replace bw := Lib.hid bw
          clear hL RN9 RD9 RS9 RX9 OV hso hM1 hm hsl6 hxs hxm hxl
          have hi37 : (Tryz.prog.info? 30).map (·.size) = some 10 := by kernel_rfl
          replace hi37 := Lib.hid hi37
          go_wp2_with (refine wpList_store_row rfl 30 (.tmp 8) (.tmp 247) rfl w.heap.size 30 c8.toArray #[.int .i64 (ST : Int), .int .u16 (M0 : Int), .int .u32 (T0 : Int), .int .u16 (G0 : Int), .int .i64 (K : Int), .slice nA nums.length nc, .slice dA dirs.length dc, .slice none 0 0, .slice sA syms.length sc, .slice xA syms.length xc] rfl rfl g8.out (by simp [hc8.out]) hi37.out (List.all_eq_true.1 rfl) ?_)
          have CR := chg_setRow wr w.heap.size #[.int .i64 (ST : Int), .int .u16 (M0 : Int), .int .u32 (T0 : Int), .int .u16 (G0 : Int), .int .i64 (K : Int), .slice nA nums.length nc, .slice dA dirs.length dc, .slice none 0 0, .slice sA syms.length sc, .slice xA syms.length xc]
          have GR := setRow_heap wr w.heap.size c8.toArray #[.int .i64 (ST : Int), .int .u16 (M0 : Int), .int .u32 (T0 : Int), .int .u16 (G0 : Int), .int .i64 (K : Int), .slice nA nums.length nc, .slice dA dirs.length dc, .slice none 0 0, .slice sA syms.length sc, .slice xA syms.length xc] 30 (0, 0) g8.out
          have KR : Keeps 30 wr (wr.setRow w.heap.size #[.int .i64 (ST : Int), .int .u16 (M0 : Int), .int .u32 (T0 : Int), .int .u16 (G0 : Int), .int .i64 (K : Int), .slice nA nums.length nc, .slice dA dirs.length dc, .slice none 0 0, .slice sA syms.length sc, .slice xA syms.length xc]) := Keeps.of_chg CR (fun k _ hk => ⟨c8.toArray, (0, 0), hk ▸ g8.out⟩)
          have MR := Lib.hid (M9.out.keeps KR (by decide) (by decide) (by decide) (by decide) (by decide) (by decide))
          have BR : Below w.heap.size w (wr.setRow w.heap.size #[.int .i64 (ST : Int), .int .u16 (M0 : Int), .int .u32 (T0 : Int), .int .u16 (G0 : Int), .int .i64 (K : Int), .slice nA nums.length nc, .slice dA dirs.length dc, .slice none 0 0, .slice sA syms.length sc, .slice xA syms.length xc]) := bw.out.trans (CR.below bw.out.size (fun k hk e => by omega))
          refine bodyPost_ret (results_cell rfl _ _ w.heap.size 30 #[.int .i64 (ST : Int), .int .u16 (M0 : Int), .int .u32 (T0 : Int), .int .u16 (G0 : Int), .int .i64 (K : Int), .slice nA nums.length nc, .slice dA dirs.length dc, .slice none 0 0, .slice sA syms.length sc, .slice xA syms.length xc] (0, 0) _ rfl GR Tryz.underlying30 rfl hi37.out) rfl ?_
          exact ⟨_, _, rfl, MR, MO, Lib.hid rfl, BR⟩
end Go.Proofs.YtbpebngjpecncaaGreatDoor
