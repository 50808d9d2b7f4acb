/-
  What is kept while a PE file is made: three rows of bytes that grow, the file's value, the numbers that came in. No program in sight.
  What is kept at the end of a PE file's making. No program in sight.
-/
import Derived.Test.YtbpebngjpecncaaGreatDoorMadeV
import Derived.Test.YtbpebngjpecncaaGreatDoorStep
import Derived.Lib.AppendStr
import Derived.Lib.AppendZerosOnto
import Derived.Test.YtbpebngjpecncaaGreatDoorRow
namespace Go.Proofs.YtbpebngjpecncaaGreatDoor
set_option linter.unusedVariables false
set_option linter.unusedSimpArgs false
set_option maxRecDepth 100000
open Go Go.RowKit

/-- A text is appended to bytes that the call owns: where the new row lies. -/
theorem wpList_append_text {P : Program} {w : World} {ops : Array Oper} {rest : List Oper} {o : Oper} {a : Act} {Q : Exit → Act → World → Prop} (hgd : o.guard = none) (sl x : Operand) (t u : TypeId)
    (ho : o.op = .call { callee := .builtin .append, args := #[sl, x], argTypes := #[t, u] })
    (base : Nat) (e : TypeId) (ht : P.underlying t = some (.slice e)) (hu : P.underlying u = some .string) (hinfo : (P.info? e).map (fun i => (i.zero, i.size, i.bytes)) = some (some (.int .u8 0), 1, 1))
    (v : Value) (n : Nat) (xl : List UInt8) (hs : a.eval sl = v) (hown : w.ownsRow base e 1 v n (xl.map bv)) (s : ByteArray) (hx : a.eval x = .string s)
    (hbytes : n + s.size ≤ 140737488355328) (hbase : base ≤ w.heap.size)
    (h : ∀ v' w', w'.ownsRow base e 1 v' (n + s.size) ((xl ++ s.data.toList).map bv) → w.grownBy w' v.ownBlock → (v'.ownBlock = v.ownBlock ∨ v'.ownBlock = some w.heap.size) → wpList P ops Q rest (a.put o.dst v') w') : wpList P ops Q (o :: rest) a w := by
  obtain ⟨i, hi, hz, hsize, hby⟩ := info_parts hinfo
  refine wpList_plain hgd fun K hK => ?_
  obtain ⟨v', w', hr, h2, h3, h4⟩ := Lib.run_append_own_string (P := P) w base t u o.type e i ht hu hi hz hsize hby v n _ hown s (by simp only [maxLen]; omega) hbytes hbase
  have hat : v'.ownBlock = v.ownBlock ∨ v'.ownBlock = some w.heap.size := by
    rcases hown.2 with ⟨rfl, rfl⟩ | ⟨g, cap, cur, rfl, hbg, hg, hnc, hcm, hcs, htake⟩
    · by_cases hm : s.size = 0
      · exact .inl (by rw [h4.2 ⟨rfl, hm⟩])
      · have h5 := run_append_nil_string (P := P) w t u o.type e i (.int .u8 0) ht hu hi hz s (by omega) (by omega) (by rw [hby]; omega)
        rw [h5] at hr
        cases hr
        exact .inr rfl
    · by_cases hroom : n + s.size ≤ cap
      · have hcs' : cur.size = cap := by simpa using hcs
        have h5 := Lib.run_append_room_string (P := P) w t u o.type e i ht hu hi hsize g n cap cur hg s hroom (by omega)
        rw [h5] at hr
        cases hr
        exact .inl rfl
      · have holds : ∀ j u, (xl.map bv)[j]? = some u → w.cell? ((⟨g, 0, none⟩ : Addr).add j) = some u := hown.cells (g := g) rfl
        have hxl : (xl.map bv).length = n := by simpa using hown.1
        have h5 := Lib.run_append_grow_string (P := P) w t u o.type e i (.int .u8 0) ht hu hi hz ⟨g, 0, none⟩ n cap (xl.map bv) (by rw [hsize]; simpa using hxl) holds s (by omega) (by omega) (by rw [hby]; exact growslice_fits (by omega) (by omega))
        rw [h5] at hr
        cases hr
        exact .inr rfl
  unfold Oper.wp execOp
  simp only [ho, resolve, invoke, builtin, Sem.run_bind, Sem.run_pure, Result.andThen_ok, List.map_toArray, List.map_cons, List.map_nil, hs, hx, hr]
  refine hK _ _ (h v' w' ?_ h3 hat)
  rw [List.map_append]
  exact h2

/-- Two rows lie in different blocks. -/
def Apart (a b : Value) : Prop := ∀ k, a.ownBlock = some k → b.ownBlock ≠ some k
theorem Apart.symm {a b : Value} (h : Apart a b) : Apart b a := fun k hb ha => h k ha hb
theorem owns_lt {w : World} {base : Nat} {e : TypeId} {size : Nat} {v : Value} {n : Nat} {xs : List Value} (h : w.ownsRow base e size v n xs) (k : Nat) (hk : v.ownBlock = some k) : base ≤ k ∧ k < w.heap.size := by
  rcases h.2 with ⟨rfl, _⟩ | ⟨g, cap, cur, rfl, hb, hg, _⟩
  · simp [Value.ownBlock] at hk
  · simp only [Value.ownBlock, Option.some.injEq] at hk
    subst hk
    exact ⟨hb, (Array.getElem?_eq_some_iff.1 hg).1⟩
/-- One row has grown: another is still there, and apart from it. -/
theorem Apart.kept {w w' : World} {base : Nat} {e : TypeId} {size : Nat} {v v' u : Value} {n : Nat} {xs : List Value} (h : Apart v u) (hu : w.ownsRow base e size u n xs) (hg : w.grownBy w' v.ownBlock) (hat : v'.ownBlock = v.ownBlock ∨ v'.ownBlock = some w.heap.size) :
    w'.ownsRow base e size u n xs ∧ Apart v' u := by
  refine ⟨hu.kept hg ?_, fun k hk hq => ?_⟩
  · cases hq : u.ownBlock with
    | none => exact .inl rfl
    | some k => exact .inr (fun e => h k e.symm hq)
  · rcases hat with e | e
    · exact h k (e.symm.trans hk) hq
    · have := (owns_lt hu k hq).2
      rw [e] at hk
      injection hk with hk
      omega

/-- The rows while a file is made. V1: what came in; V2: the result; V4: the file's value. -/
structure PS (w0 w : World) (V1 V2 V4 : Nat) (mc hd : List Value) (op : List UInt8) (vo : Value) (tx hs rs : List UInt8) (vt vh vr : Value) (nP nS nC : Nat) (vp vs vc : Value) (pcs scs ccs : List Value) : Prop where
  t : w.ownsRow w0.heap.size 5 1 vt tx.length (tx.map bv)
  h : w.ownsRow w0.heap.size 5 1 vh hs.length (hs.map bv)
  r : w.ownsRow w0.heap.size 5 1 vr rs.length (rs.map bv)
  th : Apart vt vh
  tr : Apart vt vr
  hr : Apart vh vr
  o : w.ownsRow w0.heap.size 5 1 vo op.length (op.map bv)
  to : Apart vt vo
  ho : Apart vh vo
  ro : Apart vr vo
  p : w.ownsRow w0.heap.size 63 4 vp nP pcs
  s : w.ownsRow w0.heap.size 45 5 vs nS scs
  c : w.ownsRow w0.heap.size 66 6 vc nC ccs
  v1 : w.heap[V1]? = some (.cells mc.toArray 30 (0, 0))
  v2 : ∃ cs : List Value, cs.length = 8 ∧ w.heap[V2]? = some (.cells cs.toArray 36 (0, 0))
  v4 : w.heap[V4]? = some (.cells (hd ++ [vp, vs, vc, .slice none 0 0]).toArray 36 (0, 0))
  b : Below w0.heap.size w0 w
  l1 : w0.heap.size ≤ V1
  l4 : w0.heap.size ≤ V4
  n24 : V2 ≠ V4
  n4 : hd.length = 4

section
variable {w0 w : World} {V1 V2 V4 : Nat} {mc hd : List Value} {op : List UInt8} {vo : Value} {tx hs rs : List UInt8} {vt vh vr : Value} {nP nS nC : Nat} {vp vs vc : Value} {pcs scs ccs : List Value}
theorem PS.later (h : PS w0 w V1 V2 V4 mc hd op vo tx hs rs vt vh vr nP nS nC vp vs vc pcs scs ccs) {w' : World} (hb : Below w.heap.size w w') : PS w0 w' V1 V2 V4 mc hd op vo tx hs rs vt vh vr nP nS nC vp vs vc pcs scs ccs := by
  obtain ⟨cs, h8, h2⟩ := h.v2
  exact ⟨owns_later h.t hb, owns_later h.h hb, owns_later h.r hb, h.th, h.tr, h.hr, owns_later h.o hb, h.to, h.ho, h.ro, owns_later h.p hb, owns_later h.s hb, owns_later h.c hb, (row_later hb (Lib.hid h.v1)).out, ⟨cs, h8, (row_later hb (Lib.hid h2)).out⟩, (row_later hb (Lib.hid h.v4)).out,
    h.b.trans (hb.mono h.b.size), h.l1, h.l4, h.n24, h.n4⟩
theorem below_grow {B : Nat} {w' : World} {base : Nat} {e : TypeId} {size : Nat} {v : Value} {n : Nat} {xs : List Value} (h : Below B w0 w) (hown : w.ownsRow base e size v n xs) (hB : B ≤ base) (hg : w.grownBy w' v.ownBlock) (hB2 : B ≤ w.heap.size) : Below B w0 w' :=
  ⟨hg.os.trans h.os, hg.tape.trans h.tape, hg.output.trans h.output, Nat.le_trans h.size hg.size, fun k hk => (hg.block k (Nat.lt_of_lt_of_le hk hB2) (fun e => by have := (owns_lt hown k e.symm).1; omega)).trans (h.block k hk)⟩
theorem PS.growT (h : PS w0 w V1 V2 V4 mc hd op vo tx hs rs vt vh vr nP nS nC vp vs vc pcs scs ccs) {w' : World} {vt' : Value} {l : List UInt8} (ho : w'.ownsRow w0.heap.size 5 1 vt' l.length (l.map bv)) (hg : w.grownBy w' vt.ownBlock) (hat : vt'.ownBlock = vt.ownBlock ∨ vt'.ownBlock = some w.heap.size) :
    PS w0 w' V1 V2 V4 mc hd op vo l hs rs vt' vh vr nP nS nC vp vs vc pcs scs ccs := by
  have K := Keeps.of_grown h.t hg
  obtain ⟨cs, h8, h2⟩ := h.v2
  have a1 := h.th.kept h.h hg hat
  have a2 := h.tr.kept h.r hg hat
  have a3 := h.to.kept h.o hg hat
  exact ⟨ho, a1.1, a2.1, a1.2, a2.2, h.hr, a3.1, a3.2, h.ho, h.ro, owns_keeps h.p K (by decide), owns_keeps h.s K (by decide), owns_keeps h.c K (by decide), K.block _ _ _ _ h.v1 (by decide), ⟨cs, h8, K.block _ _ _ _ h2 (by decide)⟩, K.block _ _ _ _ h.v4 (by decide),
    below_grow h.b h.t (Nat.le_refl _) hg h.b.size, h.l1, h.l4, h.n24, h.n4⟩
theorem PS.growH (h : PS w0 w V1 V2 V4 mc hd op vo tx hs rs vt vh vr nP nS nC vp vs vc pcs scs ccs) {w' : World} {vh' : Value} {l : List UInt8} (ho : w'.ownsRow w0.heap.size 5 1 vh' l.length (l.map bv)) (hg : w.grownBy w' vh.ownBlock) (hat : vh'.ownBlock = vh.ownBlock ∨ vh'.ownBlock = some w.heap.size) :
    PS w0 w' V1 V2 V4 mc hd op vo tx l rs vt vh' vr nP nS nC vp vs vc pcs scs ccs := by
  have K := Keeps.of_grown h.h hg
  obtain ⟨cs, h8, h2⟩ := h.v2
  have a1 := h.th.symm.kept h.t hg hat
  have a2 := h.hr.kept h.r hg hat
  have a3 := h.ho.kept h.o hg hat
  exact ⟨a1.1, ho, a2.1, a1.2.symm, h.tr, a2.2, a3.1, h.to, a3.2, h.ro, owns_keeps h.p K (by decide), owns_keeps h.s K (by decide), owns_keeps h.c K (by decide), K.block _ _ _ _ h.v1 (by decide), ⟨cs, h8, K.block _ _ _ _ h2 (by decide)⟩, K.block _ _ _ _ h.v4 (by decide),
    below_grow h.b h.h (Nat.le_refl _) hg h.b.size, h.l1, h.l4, h.n24, h.n4⟩
theorem PS.growR (h : PS w0 w V1 V2 V4 mc hd op vo tx hs rs vt vh vr nP nS nC vp vs vc pcs scs ccs) {w' : World} {vr' : Value} {l : List UInt8} (ho : w'.ownsRow w0.heap.size 5 1 vr' l.length (l.map bv)) (hg : w.grownBy w' vr.ownBlock) (hat : vr'.ownBlock = vr.ownBlock ∨ vr'.ownBlock = some w.heap.size) :
    PS w0 w' V1 V2 V4 mc hd op vo tx hs l vt vh vr' nP nS nC vp vs vc pcs scs ccs := by
  have K := Keeps.of_grown h.r hg
  obtain ⟨cs, h8, h2⟩ := h.v2
  have a1 := h.tr.symm.kept h.t hg hat
  have a2 := h.hr.symm.kept h.h hg hat
  have a3 := h.ro.kept h.o hg hat
  exact ⟨a1.1, a2.1, ho, h.th, a1.2.symm, a2.2.symm, a3.1, h.to, h.ho, a3.2, owns_keeps h.p K (by decide), owns_keeps h.s K (by decide), owns_keeps h.c K (by decide), K.block _ _ _ _ h.v1 (by decide), ⟨cs, h8, K.block _ _ _ _ h2 (by decide)⟩, K.block _ _ _ _ h.v4 (by decide),
    below_grow h.b h.r (Nat.le_refl _) hg h.b.size, h.l1, h.l4, h.n24, h.n4⟩
theorem keeps_set {e : TypeId} {V : Nat} {cs : Array Value} {i : Nat} {x : Value} (hV : w.heap[V]? = some (.cells cs e (0, 0))) : Keeps e w (w.setCell ⟨V, i, none⟩ x) :=
  Keeps.of_chg ((Chg.refl (· = V) w).setCell ⟨V, i, none⟩ x (.inl rfl)) (fun k _ hk => ⟨cs, (0, 0), by rw [hk]; exact hV⟩)
/-- A cell of the file's value is stored. -/
theorem PS.set (h : PS w0 w V1 V2 V4 mc hd op vo tx hs rs vt vh vr nP nS nC vp vs vc pcs scs ccs) (i : Nat) (x : Value) : ∃ w', w' = w.setCell ⟨V4, i, none⟩ x ∧ Keeps 36 w w' ∧ Below w0.heap.size w0 w' ∧ w'.heap.size = w.heap.size ∧
    w'.heap[V4]? = some (.cells ((hd ++ [vp, vs, vc, .slice none 0 0]).set i x).toArray 36 (0, 0)) ∧ (∃ cs : List Value, cs.length = 8 ∧ w'.heap[V2]? = some (.cells cs.toArray 36 (0, 0))) := by
  have C := (Chg.refl (· = V4) w).setCell ⟨V4, i, none⟩ x (.inl rfl)
  obtain ⟨cs, h8, h2⟩ := h.v2
  refine ⟨_, rfl, keeps_set h.v4, ?_, by simp, ?_, cs, h8, C.row h2 h.n24⟩
  · exact ⟨C.os.trans h.b.os, C.tape.trans h.b.tape, C.output.trans h.b.output, Nat.le_trans h.b.size C.size, fun k hk => (C.block k (Nat.lt_of_lt_of_le hk h.b.size) (fun e => by have := h.l4; omega)).trans (h.b.block k hk)⟩
  · rw [heap_setCell_same w V4 i _ _ _ h.v4]
    simp
theorem PS.push (h : PS w0 w V1 V2 V4 mc hd op vo tx hs rs vt vh vr nP nS nC vp vs vc pcs scs ccs) {w1 : World} {vp' : Value} {n : Nat} {cs : List Value} (ho : w1.ownsRow w0.heap.size 63 4 vp' n cs) (hg : w.grownBy w1 vp.ownBlock) :
    ∃ w2, w2 = w1.setCell ⟨V4, 4, none⟩ vp' ∧ PS w0 w2 V1 V2 V4 mc hd op vo tx hs rs vt vh vr n nS nC vp' vs vc cs scs ccs ∧ Keeps 63 w w1 ∧ Keeps 36 w1 w2 := by
  have K := Keeps.of_grown h.p hg
  obtain ⟨c2, h8, h2⟩ := h.v2
  have g4 := K.block _ _ _ _ h.v4 (by decide)
  have b1 := below_grow h.b h.p (Nat.le_refl _) hg h.b.size
  have C := (Chg.refl (· = V4) w1).setCell ⟨V4, 4, none⟩ vp' (.inl rfl)
  have K2 : Keeps 36 w1 (w1.setCell ⟨V4, 4, none⟩ vp') := keeps_set g4
  have hl4 := h.l4
  refine ⟨_, rfl, ⟨owns_keeps (owns_keeps h.t K (by decide)) K2 (by decide), owns_keeps (owns_keeps h.h K (by decide)) K2 (by decide), owns_keeps (owns_keeps h.r K (by decide)) K2 (by decide), h.th, h.tr, h.hr, owns_keeps (owns_keeps h.o K (by decide)) K2 (by decide), h.to, h.ho, h.ro,
    owns_keeps ho K2 (by decide), owns_keeps (owns_keeps h.s K (by decide)) K2 (by decide), owns_keeps (owns_keeps h.c K (by decide)) K2 (by decide), K2.block _ _ _ _ (K.block _ _ _ _ h.v1 (by decide)) (by decide),
    ⟨c2, h8, C.row (K.block _ _ _ _ h2 (by decide)) h.n24⟩, ?_, ?_, h.l1, h.l4, h.n24, h.n4⟩, K, K2⟩
  · rw [heap_setCell_same w1 V4 4 _ _ _ g4]
    have : (hd ++ [vp, vs, vc, .slice none 0 0]).set 4 vp' = hd ++ [vp', vs, vc, .slice none 0 0] := by
      rw [List.set_append_right _ _ (by rw [h.n4]; exact Nat.le_refl _), h.n4]; rfl
    rw [List.setIfInBounds_toArray, this]
  · exact ⟨C.os.trans b1.os, C.tape.trans b1.tape, C.output.trans b1.output, Nat.le_trans b1.size C.size, fun k hk => (C.block k (Nat.lt_of_lt_of_le hk b1.size) (fun e => by omega)).trans (b1.block k hk)⟩
theorem PS.start {op : List UInt8} {vo : Value} (o : w.ownsRow w0.heap.size 5 1 vo op.length (op.map bv)) (v1 : w.heap[V1]? = some (.cells mc.toArray 30 (0, 0)))
    (v2 : ∃ cs : List Value, cs.length = 8 ∧ w.heap[V2]? = some (.cells cs.toArray 36 (0, 0))) (v4 : w.heap[V4]? = some (.cells (hd ++ ([.slice none 0 0, .slice none 0 0, .slice none 0 0, .slice none 0 0] : List Value)).toArray 36 (0, 0)))
    (b : Below w0.heap.size w0 w) (l1 : w0.heap.size ≤ V1) (l4 : w0.heap.size ≤ V4) (n24 : V2 ≠ V4) (n4 : hd.length = 4) :
    PS w0 w V1 V2 V4 mc hd op vo [] [] [] (.slice none 0 0) (.slice none 0 0) (.slice none 0 0) 0 0 0 (.slice none 0 0) (.slice none 0 0) (.slice none 0 0) [] [] [] := by
  have hn : ∀ u : Value, Apart (.slice none 0 0) u := fun u k h => by simp [Value.ownBlock] at h
  exact ⟨World.ownsRow_nil _ _ _ _, World.ownsRow_nil _ _ _ _, World.ownsRow_nil _ _ _ _, hn _, hn _, hn _, o, hn _, hn _, hn _, World.ownsRow_nil _ _ _ _, World.ownsRow_nil _ _ _ _, World.ownsRow_nil _ _ _ _, v1, v2, v4, b, l1, l4, n24, n4⟩
/-- A row of another kind has changed. -/
theorem PS.poke {op : List UInt8} {vo : Value} (h : PS w0 w V1 V2 V4 mc hd op vo tx hs rs vt vh vr nP nS nC vp vs vc pcs scs ccs) {V : Nat} {cs : Array Value} (i : Nat) (x : Value) (g : w.heap[V]? = some (.cells cs 54 (0, 0))) (hV : w0.heap.size ≤ V) :
    PS w0 (w.setCell ⟨V, i, none⟩ x) V1 V2 V4 mc hd op vo tx hs rs vt vh vr nP nS nC vp vs vc pcs scs ccs := by
  have K : Keeps 54 w (w.setCell ⟨V, i, none⟩ x) := keeps_set g
  have C := (Chg.refl (· = V) w).setCell ⟨V, i, none⟩ x (.inl rfl)
  obtain ⟨c2, h8, h2⟩ := h.v2
  exact ⟨owns_keeps h.t K (by decide), owns_keeps h.h K (by decide), owns_keeps h.r K (by decide), h.th, h.tr, h.hr, owns_keeps h.o K (by decide), h.to, h.ho, h.ro, owns_keeps h.p K (by decide), owns_keeps h.s K (by decide), owns_keeps h.c K (by decide),
    K.block _ _ _ _ h.v1 (by decide), ⟨c2, h8, K.block _ _ _ _ h2 (by decide)⟩, K.block _ _ _ _ h.v4 (by decide),
    ⟨C.os.trans h.b.os, C.tape.trans h.b.tape, C.output.trans h.b.output, Nat.le_trans h.b.size C.size, fun k hk => (C.block k (Nat.lt_of_lt_of_le hk h.b.size) (fun e => by omega)).trans (h.b.block k hk)⟩, h.l1, h.l4, h.n24, h.n4⟩
/-- Three rows are begun. -/
theorem PS.rows {op : List UInt8} {vo : Value} (h : PS w0 w V1 V2 V4 mc hd op vo tx hs rs vt vh vr nP nS nC vp vs vc pcs scs ccs) {w' : World} (hw : w' = ((w.alloc (.cells #[] 5)).alloc (.cells #[] 5)).alloc (.cells #[] 5)) :
    PS w0 w' V1 V2 V4 mc hd op vo [] [] [] (.slice (some ⟨w.heap.size, 0, none⟩) 0 0) (.slice (some ⟨w.heap.size + 1, 0, none⟩) 0 0) (.slice (some ⟨w.heap.size + 1 + 1, 0, none⟩) 0 0) nP nS nC vp vs vc pcs scs ccs ∧ Below w.heap.size w w' ∧ w'.heap.size = w.heap.size + 3 := by
  have hb : Below w.heap.size w w' := by rw [hw]; exact (((Below.refl _ w).alloc (Nat.le_refl _) _).alloc (by simp) _).alloc (by simp; omega) _
  have hz : w'.heap.size = w.heap.size + 3 := by rw [hw]; simp
  have h2 := h.later hb
  have hsz := h.b.size
  have e1 : (w.alloc (.cells #[] 5)).heap.size = w.heap.size + 1 := by simp
  have e2 : ((w.alloc (.cells #[] 5)).alloc (.cells #[] 5)).heap.size = w.heap.size + 1 + 1 := by simp
  have own : ∀ k, w'.heap[k]? = some (.cells (#[] : Array Value) 5 (0, 0)) → w0.heap.size ≤ k → w'.ownsRow w0.heap.size 5 1 (.slice (some ⟨k, 0, none⟩) 0 0) ([] : List UInt8).length (([] : List UInt8).map bv) := fun k hk hb =>
    ⟨rfl, .inr ⟨k, 0, #[], rfl, hb, hk, Nat.le_refl _, Nat.zero_le _, rfl, rfl⟩⟩
  have r0 : w'.heap[w.heap.size]? = some (.cells (#[] : Array Value) 5 (0, 0)) := by
    rw [hw, heap_alloc_old _ _ (by simp; omega), heap_alloc_old _ _ (by simp), heap_alloc_new]
  have r1 : w'.heap[w.heap.size + 1]? = some (.cells (#[] : Array Value) 5 (0, 0)) := by
    rw [hw, heap_alloc_old _ _ (by simp), ← e1, heap_alloc_new]
  have r2 : w'.heap[w.heap.size + 1 + 1]? = some (.cells (#[] : Array Value) 5 (0, 0)) := by
    rw [hw, ← e2, heap_alloc_new]
  have ap : ∀ a b : Nat, a ≠ b → Apart (.slice (some ⟨a, 0, none⟩) 0 0) (.slice (some ⟨b, 0, none⟩) 0 0) := fun a b hab k ha hb => by
    simp only [Value.ownBlock, Option.some.injEq] at ha hb
    omega
  have apo : ∀ a : Nat, w.heap.size ≤ a → Apart (.slice (some ⟨a, 0, none⟩) 0 0) vo := fun a hab k ha hb => by
    simp only [Value.ownBlock, Option.some.injEq] at ha
    have := (owns_lt h.o k hb).2
    omega
  exact ⟨⟨own _ r0 (by omega), own _ r1 (by omega), own _ r2 (by omega), ap _ _ (by omega), ap _ _ (by omega), ap _ _ (by omega), h2.o, apo _ (by omega), apo _ (by omega), apo _ (by omega), h2.p, h2.s, h2.c, h2.v1, h2.v2, h2.v4, h2.b, h2.l1, h2.l4, h2.n24, h2.n4⟩, hb, hz⟩
/-- Noughts are appended to a row of numbers that the call owns. -/
theorem run_append_noughts {P : Program} {w : World} (base : Nat) (t tI ty e : TypeId) (ht : P.underlying t = some (.slice e)) (hI : P.underlying tI = some (.int .i64)) (hinfo : (P.info? e).map (fun i => (i.zero, i.size, i.bytes)) = some (some (.int .u64 0), 1, 8))
    (v : Value) (n : Nat) (xs : List Value) (hown : w.ownsRow base e 1 v n xs) (k : Nat) (hn : n ≤ 1000) (hk : k ≤ 1000) :
    ∃ A n' c w', (Builtin.append_ #[t, tI] ty #[v, .int .i64 k]).run P w = .ok (.slice A n' c) w' ∧ w.grownBy w' v.ownBlock := by
  obtain ⟨i, hi, hz, hsize, hby⟩ := info_parts hinfo
  have hw : IntKind.i64.wrap (k : Int) = k := by rw [IntKind.wrap_i64]; omega
  have hneg : ¬ ((k : Int) < 0) := by omega
  have h48i : ¬ (281474976710656 < (k : Int) * 8) := by omega
  rcases hown.2 with ⟨rfl, rfl⟩ | ⟨g, cap, cur, rfl, hbg, hg, hnc, hcm, hcs, htake⟩
  · by_cases hk0 : k = 0
    · subst hk0
      refine ⟨none, 0, 0, w, ?_, ⟨rfl, rfl, rfl, Nat.le_refl _, fun _ _ _ => rfl⟩⟩
      have hw0 : IntKind.i64.wrap 0 = 0 := by decide
      simp [Builtin.append_, run_underlying ht, run_underlying hI, sizeOf, typeInfo, hi, asInt, asIntOf, hw0]
    · have h := Lib.run_append_nil_zeros (P := P) w t tI ty e i (.int .u64 0) .i64 .i64 ht hI hi hz k (by omega) (by omega) (by omega) (by rw [hby]; omega)
      exact ⟨_, _, _, _, h, ⟨rfl, rfl, rfl, by simp, fun k' hk' _ => Below.heap_alloc w.drew _ k' hk'⟩⟩
  · by_cases hroom : n + k ≤ cap
    · by_cases hk0 : k = 0
      · subst hk0
        refine ⟨some ⟨g, 0, none⟩, n, cap, w, ?_, ⟨rfl, rfl, rfl, Nat.le_refl _, fun _ _ _ => rfl⟩⟩
        have hw0 : IntKind.i64.wrap 0 = 0 := by decide
        simp [Builtin.append_, run_underlying ht, run_underlying hI, sizeOf, typeInfo, hi, asInt, asIntOf, hw0, hnc, storeCells]
      · have hzc : (Builtin.zeroCells #[.int .u64 0] k).toList.length = k := by simp [size_zeroCells]
        have hz1 : ∀ u ∈ (Builtin.zeroCells #[.int .u64 0] k).toList, u.oneCell' = true := by
          intro u hu
          simp only [Builtin.zeroCells, Array.toList_map, List.mem_map] at hu
          obtain ⟨j, _, rfl⟩ := hu
          have : j % (#[Value.int .u64 0] : Array Value).size = 0 := by simp [Nat.mod_one]
          rw [this]
          rfl
        have hcs' : cur.size = cap := by simpa using hcs
        obtain ⟨cs, hst⟩ : ∃ cs, (storeCells ⟨g, n, none⟩ (Builtin.zeroCells #[.int .u64 0] k).toList).run P w = .ok () (w.setRow g cs) := by
          have h := run_storeCells_at P g n e (Builtin.zeroCells #[.int .u64 0] k).toList 0 cur w hg (by rw [hzc]; omega) hz1
          exact ⟨_, h⟩
        refine ⟨some ⟨g, 0, none⟩, n + k, cap, w.setRow g cs, ?_, ?_⟩
        · have hns : ¬ (k * 1 = 0) := by omega
          simp [Builtin.append_, run_underlying ht, run_underlying hI, sizeOf, typeInfo, zeroValue, hi, hz, hsize, hby, asInt, asIntOf, hw, hneg, hk0, hroom, h48i, Addr.add_lit, Value.cells, hst]
        · exact ⟨rfl, rfl, rfl, by simp, fun k' _ hk' => setRow_other w g k' _ (fun e => hk' (by simp [Value.ownBlock, e]))⟩
    · have holds : ∀ j u, xs[j]? = some u → w.cell? ((⟨g, 0, none⟩ : Addr).add j) = some u := hown.cells (g := g) rfl
      have hxl : xs.length = n := by simpa using hown.1
      have hold := run_firstCells_some (P := P) w.drew i.size n ⟨g, 0, none⟩ n cap xs (by rw [hsize]; omega) (by simpa using holds)
      have h := Lib.run_append_grow_zeros (P := P) w t tI ty e i (.int .u64 0) .i64 .i64 ht hI hi hz (some ⟨g, 0, none⟩) n cap xs hold k (by omega) (by omega) (by omega) (by omega) (by rw [hby]; omega) (by rw [hby]; exact growslice_fits (by omega) (by omega))
      exact ⟨_, _, _, _, h, ⟨rfl, rfl, rfl, by simp, fun k' hk' _ => Below.heap_alloc w.drew _ k' hk'⟩⟩
end

open Go Go.RowKit

/-- The rows at the end: V1: what came in; V2: the result; V4: the file's value. -/
structure TS (w0 w : World) (V1 V2 V4 : Nat) (mc row4 : List Value) (op : List UInt8) (vo : Value) (tx hs rs : List UInt8) (vt vh vr : Value) (nP : Nat) (vp : Value) (pcs : List Value) : Prop where
  t : w.ownsRow w0.heap.size 5 1 vt tx.length (tx.map bv)
  h : w.ownsRow w0.heap.size 5 1 vh hs.length (hs.map bv)
  r : w.ownsRow w0.heap.size 5 1 vr rs.length (rs.map bv)
  tr : Apart vt vr
  hr : Apart vh vr
  o : w.ownsRow w0.heap.size 5 1 vo op.length (op.map bv)
  ro : Apart vr vo
  p : w.ownsRow w0.heap.size 63 4 vp nP pcs
  v1 : w.heap[V1]? = some (.cells mc.toArray 30 (0, 0))
  v2 : ∃ cs : List Value, cs.length = 8 ∧ w.heap[V2]? = some (.cells cs.toArray 36 (0, 0))
  v4 : w.heap[V4]? = some (.cells row4.toArray 36 (0, 0))
  b : Below w0.heap.size w0 w
  l2 : w0.heap.size ≤ V2
  l4 : w0.heap.size ≤ V4
  n24 : V2 ≠ V4

section
variable {w0 w : World} {V1 V2 V4 : Nat} {mc row4 : List Value} {op : List UInt8} {vo : Value} {tx hs rs : List UInt8} {vt vh vr : Value} {nP : Nat} {vp : Value} {pcs : List Value}
theorem PS.ts {hd : List Value} {nS nC : Nat} {vs vc : Value} {scs ccs : List Value} (h : PS w0 w V1 V2 V4 mc hd op vo tx hs rs vt vh vr nP nS nC vp vs vc pcs scs ccs) (l2 : w0.heap.size ≤ V2) :
    TS w0 w V1 V2 V4 mc (hd ++ [vp, vs, vc, .slice none 0 0]) op vo tx hs rs vt vh vr nP vp pcs :=
  ⟨h.t, h.h, h.r, h.tr, h.hr, h.o, h.ro, h.p, h.v1, h.v2, h.v4, h.b, l2, h.l4, h.n24⟩
theorem TS.later (h : TS w0 w V1 V2 V4 mc row4 op vo tx hs rs vt vh vr nP vp pcs) {w' : World} (hb : Below w.heap.size w w') : TS w0 w' V1 V2 V4 mc row4 op vo tx hs rs vt vh vr nP vp pcs := by
  obtain ⟨cs, h8, h2⟩ := h.v2
  exact ⟨owns_later h.t hb, owns_later h.h hb, owns_later h.r hb, h.tr, h.hr, owns_later h.o hb, h.ro, owns_later h.p hb, (row_later hb (Lib.hid h.v1)).out, ⟨cs, h8, (row_later hb (Lib.hid h2)).out⟩, (row_later hb (Lib.hid h.v4)).out,
    h.b.trans (hb.mono h.b.size), h.l2, h.l4, h.n24⟩
theorem TS.growR (h : TS w0 w V1 V2 V4 mc row4 op vo tx hs rs vt vh vr nP vp pcs) {w' : World} {vr' : Value} {l : List UInt8} (ho : w'.ownsRow w0.heap.size 5 1 vr' l.length (l.map bv)) (hg : w.grownBy w' vr.ownBlock) (hat : vr'.ownBlock = vr.ownBlock ∨ vr'.ownBlock = some w.heap.size) :
    TS w0 w' V1 V2 V4 mc row4 op vo tx hs l vt vh vr' nP vp pcs := by
  have K := Keeps.of_grown h.r hg
  obtain ⟨cs, h8, h2⟩ := h.v2
  have a1 := h.tr.symm.kept h.t hg hat
  have a2 := h.hr.symm.kept h.h hg hat
  have a3 := h.ro.kept h.o hg hat
  exact ⟨a1.1, a2.1, ho, a1.2.symm, a2.2.symm, a3.1, a3.2, owns_keeps h.p K (by decide), K.block _ _ _ _ h.v1 (by decide), ⟨cs, h8, K.block _ _ _ _ h2 (by decide)⟩, K.block _ _ _ _ h.v4 (by decide),
    below_grow h.b h.r (Nat.le_refl _) hg h.b.size, h.l2, h.l4, h.n24⟩
/-- A cell of the file's value is stored. -/
theorem TS.set (h : TS w0 w V1 V2 V4 mc row4 op vo tx hs rs vt vh vr nP vp pcs) (i : Nat) (x : Value) : TS w0 (w.setCell ⟨V4, i, none⟩ x) V1 V2 V4 mc (row4.set i x) op vo tx hs rs vt vh vr nP vp pcs := by
  have C := (Chg.refl (· = V4) w).setCell ⟨V4, i, none⟩ x (.inl rfl)
  have K : Keeps 36 w (w.setCell ⟨V4, i, none⟩ x) := keeps_set h.v4
  obtain ⟨cs, h8, h2⟩ := h.v2
  refine ⟨owns_keeps h.t K (by decide), owns_keeps h.h K (by decide), owns_keeps h.r K (by decide), h.tr, h.hr, owns_keeps h.o K (by decide), h.ro, owns_keeps h.p K (by decide), K.block _ _ _ _ h.v1 (by decide), ⟨cs, h8, C.row h2 h.n24⟩, ?_, ?_, h.l2, h.l4, h.n24⟩
  · rw [heap_setCell_same w V4 i _ _ _ h.v4]
    simp
  · have := h.l4
    exact ⟨C.os.trans h.b.os, C.tape.trans h.b.tape, C.output.trans h.b.output, Nat.le_trans h.b.size C.size, fun k hk => (C.block k (Nat.lt_of_lt_of_le hk h.b.size) (fun e => by omega)).trans (h.b.block k hk)⟩
end
theorem step_store_row {P : Program} {ops : Array Oper} {op : Oper} {a : Act} {w : World} {K : Act → World → Prop} {Q : Exit → Act → World → Prop} {E : Prop} (hgd : op.guard = none) (ty : TypeId) (x y : Operand) (ho : op.op = .store ty x y)
    (g : Nat) (t : TypeId) (cur cells : Array Value) (hx : a.eval x = .pointer (some ⟨g, 0, none⟩)) (hy : a.eval y = .agg cells) (hg : w.heap[g]? = some (.cells cur t (0, 0))) (hs : cells.size = cur.size)
    (hi : (P.info? ty).map (·.size) = some cells.size) (h1 : ∀ v ∈ cells.toList, v.oneCell' = true)
    (h : K (a.put op.dst undef) (w.setRow g cells)) : if Region.wanted op (yielded ops a.tmps) = true then Oper.wp P op a w K Q else E := by
  have hw : Region.wanted op (yielded ops a.tmps) = true := by simp [Region.wanted, hgd]
  rw [if_pos hw]
  have hrun := run_storeAt_row (P := P) w g ty t cur cells hg hs hi h1
  unfold Oper.wp execOp
  simp only [ho, hx, hy, Sem.run_bind, hrun, Result.andThen_ok, Sem.run_pure]
  exact h

theorem chg8 (v0 v1 v2 v3 v4 v5 v6 v7 : Value) (b : Nat) (w : World) : Chg (· = b) w ((((((((w.setCell ⟨b, 0, none⟩ v0).setCell ⟨b, 1, none⟩ v1).setCell ⟨b, 2, none⟩ v2).setCell ⟨b, 3, none⟩ v3).setCell ⟨b, 4, none⟩ v4).setCell ⟨b, 5, none⟩ v5).setCell ⟨b, 6, none⟩ v6).setCell ⟨b, 7, none⟩ v7) :=
  ((((((((Chg.refl (· = b) w).setCell ⟨b, 0, none⟩ v0 (.inl rfl)).setCell ⟨b, 1, none⟩ v1 (.inl rfl)).setCell ⟨b, 2, none⟩ v2 (.inl rfl)).setCell ⟨b, 3, none⟩ v3 (.inl rfl)).setCell ⟨b, 4, none⟩ v4 (.inl rfl)).setCell ⟨b, 5, none⟩ v5 (.inl rfl)).setCell ⟨b, 6, none⟩ v6 (.inl rfl)).setCell ⟨b, 7, none⟩ v7 (.inl rfl)
theorem row8 (v0 v1 v2 v3 v4 v5 v6 v7 u0 u1 u2 u3 u4 u5 u6 u7 : Value) (b : Nat) (w : World) (T : TypeId) (h : w.heap[b]? = some (.cells ([u0, u1, u2, u3, u4, u5, u6, u7] : List Value).toArray T (0, 0))) :
    ((((((((w.setCell ⟨b, 0, none⟩ v0).setCell ⟨b, 1, none⟩ v1).setCell ⟨b, 2, none⟩ v2).setCell ⟨b, 3, none⟩ v3).setCell ⟨b, 4, none⟩ v4).setCell ⟨b, 5, none⟩ v5).setCell ⟨b, 6, none⟩ v6).setCell ⟨b, 7, none⟩ v7).heap[b]? = some (.cells #[v0, v1, v2, v3, v4, v5, v6, v7] T (0, 0)) := by
  have h0 := heap_setCell_same _ b 0 _ _ v0 h
  rw [List.setIfInBounds_toArray] at h0
  have h1 := heap_setCell_same _ b 1 _ _ v1 h0
  rw [List.setIfInBounds_toArray] at h1
  have h2 := heap_setCell_same _ b 2 _ _ v2 h1
  rw [List.setIfInBounds_toArray] at h2
  have h3 := heap_setCell_same _ b 3 _ _ v3 h2
  rw [List.setIfInBounds_toArray] at h3
  have h4 := heap_setCell_same _ b 4 _ _ v4 h3
  rw [List.setIfInBounds_toArray] at h4
  have h5 := heap_setCell_same _ b 5 _ _ v5 h4
  rw [List.setIfInBounds_toArray] at h5
  have h6 := heap_setCell_same _ b 6 _ _ v6 h5
  rw [List.setIfInBounds_toArray] at h6
  have h7 := heap_setCell_same _ b 7 _ _ v7 h6
  rw [List.setIfInBounds_toArray] at h7
  exact h7
theorem RB.of_slice {w : World} {base : Nat} {e : TypeId} {A : Option Addr} {n c : Nat} {l : List UInt8} (h : w.ownsRow base e 1 (.slice A n c) n (l.map bv)) : RB w A l := by
  obtain ⟨-, A', c', e', R, -⟩ := RB.of_owns h
  simp only [Value.slice.injEq, true_and] at e'
  obtain ⟨rfl, rfl⟩ := e'
  exact R
/-- A part of the file's value. -/
def RPart (_ : World) (cs : List Value) (b : BitL) : Prop :=
  ∃ A a a' B b1 b' C c c', cs = [.string ⟨b.name.toArray⟩, .slice A a a', .slice B b1 b', .slice C c c']
/-- What the making of a file answers. -/
def PeOfPost (w : World) (m : MadeL) (e : Ending) (w' : World) : Prop :=
  ∃ (x0 x1 x2 x3 x5 x7 : Value) (VP : Option Addr) (cp : Nat) (VC : Option Addr) (cc : Nat) (A : Option Addr) (ca : Nat) (pcs : List Value),
    e = .returned (.tuple #[.agg #[x0, x1, x2, x3, .slice VP m.bits.length cp, x5, .slice VC (symE m).n cc, x7], .slice A (fileB m).length ca]) ∧ (fileB m).length ≤ ca ∧ Hid (RB w' A (fileB m)) ∧
    Hid (RC w' VP 4 m.bits.length pcs) ∧ Hid (Recs RPart w' 4 m.bits.length pcs m.bits) ∧ Below w.heap.size w w'
end Go.Proofs.YtbpebngjpecncaaGreatDoor
