/-
  Laws for an append inside a drawn region; owners carried on. No program in sight.
-/
import Derived.Test.YtbpebngjpecncaaGreatDoorRecs
import Derived.Deep.AppendLies
namespace Go.Proofs.YtbpebngjpecncaaGreatDoor
set_option linter.unusedVariables false
set_option linter.unusedSimpArgs false
set_option maxRecDepth 100000
open Go Go.RowKit

theorem owns_mono {w : World} {base base' : Nat} {e : TypeId} {size : Nat} {v : Value} {n : Nat} {xs : List Value} (h : w.ownsRow base e size v n xs) (hb : base' ≤ base) : w.ownsRow base' e size v n xs :=
  ⟨h.1, h.2.imp id fun ⟨g, cap, cur, hv, hbg, r⟩ => ⟨g, cap, cur, hv, Nat.le_trans hb hbg, r⟩⟩
theorem owns_later {w w' : World} {base : Nat} {e : TypeId} {size : Nat} {v : Value} {n : Nat} {xs : List Value} (h : w.ownsRow base e size v n xs) (hb : Below w.heap.size w w') : w'.ownsRow base e size v n xs :=
  h.kept (row := none) ⟨hb.os, hb.tape, hb.output, hb.size, fun x hx _ => hb.block x hx⟩ (by cases hq : v.ownBlock <;> simp)
/-- An owned row is kept where blocks of another element type alone have changed. -/
theorem owns_keeps {w w' : World} {base : Nat} {e f : TypeId} {size : Nat} {v : Value} {n : Nat} {xs : List Value} (h : w.ownsRow base e size v n xs) (hk : Keeps f w w') (hne : e ≠ f) : w'.ownsRow base e size v n xs :=
  ⟨h.1, h.2.imp id fun ⟨g, cap, cur, hv, hbg, hg, r⟩ => ⟨g, cap, cur, hv, hbg, hk.block g _ _ _ hg hne, r⟩⟩
theorem owns_cellsN {w : World} {base : Nat} {e : TypeId} {size : Nat} {v : Value} {n : Nat} {vs : List Value} (h : w.ownsRow base e size v n vs) (h0 : 0 < n) :
    ∃ g cap, v = .slice (some ⟨g, 0, none⟩) n cap ∧ n ≤ cap ∧ base ≤ g ∧ g < w.heap.size ∧ ∀ j u, vs[j]? = some u → w.cell? ⟨g, j, none⟩ = some u := by
  obtain ⟨A, c, rfl, hR, hc, -⟩ := RT.of_owns h
  obtain ⟨g, o, cur, fr, rfl, hg, hcl⟩ := hR.2 h0
  rcases h.2 with ⟨h1, _⟩ | ⟨g', cap', cur', h1, hb, _⟩
  · simp at h1
  · simp only [Value.slice.injEq, Option.some.injEq, Addr.mk.injEq, and_true] at h1
    obtain ⟨⟨rfl, rfl⟩, -, rfl⟩ := h1
    refine ⟨_, _, rfl, hc, hb, (Array.getElem?_eq_some_iff.1 hg).1, fun j u hu => ?_⟩
    rw [cell_of_row w _ j _ _ _ hg]
    simpa using hcl j u hu
/-- An owned row of records: where each lies. -/
theorem rec_at {α : Type} {R : World → List Value → α → Prop} {w : World} {base : Nat} {e : TypeId} {size : Nat} {v : Value} {n : Nat} {vs : List Value} {xs : List α} (h : w.ownsRow base e size v n vs) (hr : Recs R w size n vs xs) (hs : 0 < size) :
    ∃ A c, v = .slice A n c ∧ n ≤ c ∧ c ≤ maxLen ∧ ∀ k, k < n → ∃ g cs x, A = some ⟨g, 0, none⟩ ∧ base ≤ g ∧ g < w.heap.size ∧ xs[k]? = some x ∧ cs.length = size ∧ R w cs x ∧ ∀ i u, cs[i]? = some u → w.cell? ⟨g, k * size + i, none⟩ = some u := by
  obtain ⟨A, c, rfl, -, hc, hm⟩ := RT.of_owns h
  refine ⟨A, c, rfl, hc, hm, fun k hk => ?_⟩
  obtain ⟨g, cap, hv, -, hb, hlt, hcl⟩ := owns_cellsN h (by omega)
  simp only [Value.slice.injEq] at hv
  obtain ⟨rfl, -, rfl⟩ := hv
  obtain ⟨cs, x, hx, hl, hR, hat⟩ := hr.get hk
  exact ⟨g, cs, x, rfl, hb, hlt, hx, hl, hR, fun i u hu => hcl _ u (hat i u hu)⟩
/-- A cell is stored: what is known afterwards. -/
theorem stored {w : World} {V : Nat} {cs : Array Value} {TV : TypeId} (i : Nat) (x : Value) (hV : Hid (w.heap[V]? = some (.cells cs TV (0, 0)))) :
    ∃ w', w' = w.setCell ⟨V, i, none⟩ x ∧ Hid (w'.heap[V]? = some (.cells (cs.setIfInBounds i x) TV (0, 0))) ∧ Hid (Chg (· = V) w w') ∧ Hid (w'.heap.size = w.heap.size) :=
  ⟨_, rfl, Lib.hid (heap_setCell_same w V i _ TV _ hV.out), Lib.hid ((Chg.refl _ w).setCell _ _ (.inl rfl)), Lib.hid (by simp)⟩
theorem Chg.grown {S : Nat → Prop} {a w w' : World} {row : Option Nat} (h : Chg S a w) (hg : w.grownBy w' row) (hr : ∀ k, row = some k → S k ∨ a.heap.size ≤ k) : Chg S a w' :=
  ⟨hg.os.trans h.os, hg.tape.trans h.tape, hg.output.trans h.output, Nat.le_trans h.size hg.size, fun k hk hs => (hg.block k (Nat.lt_of_lt_of_le hk h.size) (fun e => (hr k e.symm).elim hs (Nat.not_le.2 hk))).trans (h.block k hk hs)⟩
/-- Cells in the midst of a row are stored, one behind the other. -/
theorem row_sets {R o : Nat} {pre post : List Value} {T : TypeId} (hO : pre.length = o) : ∀ (sets : List (Nat × Value)) (xs : List Value) (w : World) (_ : ∀ p ∈ sets, p.1 < xs.length) (_ : w.heap[R]? = some (.cells (pre ++ (xs ++ post)).toArray T (0, 0))),
    (sets.foldl (fun w p => w.setCell ⟨R, o + p.1, none⟩ p.2) w).heap[R]? = some (.cells (pre ++ ((sets.foldl (fun l p => l.set p.1 p.2) xs) ++ post)).toArray T (0, 0)) ∧ Chg (· = R) w (sets.foldl (fun w p => w.setCell ⟨R, o + p.1, none⟩ p.2) w)
  | [], xs, w, _, h => ⟨h, Chg.refl _ w⟩
  | (i, x) :: r, xs, w, hin, h => by
    have hi : i < xs.length := hin (i, x) (by simp)
    have h1 : (w.setCell ⟨R, o + i, none⟩ x).heap[R]? = some (.cells (pre ++ (xs.set i x ++ post)).toArray T (0, 0)) := by
      rw [heap_setCell_same w R (o + i) _ T _ h]
      subst hO
      rw [List.setIfInBounds_toArray, List.set_append_right _ _ (by omega), Nat.add_sub_cancel_left, List.set_append_left _ _ hi]
    obtain ⟨h2, h3⟩ := row_sets hO r (xs.set i x) (w.setCell ⟨R, o + i, none⟩ x) (fun p hp => by rw [List.length_set]; exact hin p (List.mem_cons_of_mem _ hp)) h1
    exact ⟨h2, ((Chg.refl (· = R) w).setCell _ _ (.inl rfl)).trans (h3.mono fun k _ e => .inl e)⟩
/-- A row that is the call's own as a whole. -/
theorem owns_whole {w : World} {base g size n : Nat} {T : TypeId} {cs : List Value} (hg : w.heap[g]? = some (.cells cs.toArray T (0, 0))) (hb : base ≤ g) (hn : cs.length = n * size) (hm : n ≤ maxLen) : w.ownsRow base T size (.slice (some ⟨g, 0, none⟩) n n) n cs :=
  ⟨hn, .inr ⟨g, n, cs.toArray, rfl, hb, hg, Nat.le_refl _, hm, by simp; omega, by show List.take _ cs = cs; exact List.take_of_length_le (by omega)⟩⟩
theorem owns_chg {S : Nat → Prop} {w w' : World} {base : Nat} {e : TypeId} {size : Nat} {v : Value} {n : Nat} {xs : List Value} (h : w.ownsRow base e size v n xs) (hc : Chg S w w') (hv : ∀ k, v.ownBlock = some k → ¬ S k) : w'.ownsRow base e size v n xs :=
  ⟨h.1, h.2.imp id fun ⟨g, cap, cur, e1, hbg, hg, r⟩ => ⟨g, cap, cur, e1, hbg, hc.row hg (hv g (by rw [e1]; rfl)), r⟩⟩
theorem rc_newN {w : World} {vs : List Value} {T : TypeId} {k size n : Nat} (hk : k = w.heap.size) (hn : vs.length = n * size) : RC (w.alloc (.cells vs.toArray T)) (some ⟨k, 0, none⟩) size n vs := by
  subst hk
  refine ⟨hn, fun _ => ⟨_, rfl, fun j u hu => ?_⟩⟩
  rw [add_off, Nat.zero_add, cell_of_row _ _ j _ _ _ (heap_alloc_new w (.cells vs.toArray T)), List.getElem?_toArray]
  exact hu
theorem rc_later {w w' : World} {A : Option Addr} {k n : Nat} {vs : List Value} (h : RC w A k n vs) (hb : Below w.heap.size w w') : RC w' A k n vs :=
  ⟨h.1, fun h0 => by
    obtain ⟨a, rfl, hc⟩ := h.2 h0
    exact ⟨a, rfl, fun j u hu => (hb.cell (p := a.add j) (World.block_lt_of_cell? w _ (hc j u hu))).trans (hc j u hu)⟩⟩

theorem RB.drew {w : World} {A : Option Addr} {l : List UInt8} (h : RB w A l) : RB w.drew A l := h.keep fun _ _ _ => by simp
/-- One record of so many cells is appended, inside a region that draws its order. -/
theorem step_append_any {P : Program} {w : World} {ops : Array Oper} {o : Oper} {a : Act} {K : Act → World → Prop} {Q : Exit → Act → World → Prop} {E : Prop} (hgd : o.guard = none) (s x : Operand) (t : TypeId)
    (ho : o.op = .call { callee := .builtin .append, args := #[s, x], argTypes := #[t, t] })
    (base : Nat) (e : TypeId) (i : TypeInfo) (z : Value) (size bytes : Nat) (ht : P.underlying t = some (.slice e)) (hi : P.info? e = some i) (hz : i.zero = some z)
    (hsize : i.size = size) (hby : i.bytes = bytes) (hzs : z.cells.size = size) (hsz : 0 < size)
    (v : Value) (n : Nat) (xs : List Value) (hs : a.eval s = v) (hown : w.ownsRow base e size v n xs)
    (A : Option Addr) (m c : Nat) (news : List Value) (hx : a.eval x = .slice A m c) (hr : RC w A size m news) (h1 : ∀ u ∈ news, u.oneCell' = true)
    (h63 : n + m ≤ maxLen) (hbytes : (n + m) * bytes ≤ 140737488355328) (hbase : base ≤ w.heap.size)
    (h : ∀ v' w', w'.ownsRow base e size v' (n + m) (xs ++ news) → w.grownBy w' v.ownBlock → (v'.ownBlock = v.ownBlock ∨ v'.ownBlock = some w.heap.size) → K (a.put o.dst v') w') :
    if Region.wanted o (yielded ops a.tmps) = true then Oper.wp P o a w K Q else E := by
  have hw : Region.wanted o (yielded ops a.tmps) = true := by simp [Region.wanted, hgd]
  rw [if_pos hw]
  exact wp_append_any s x t ho base e i z size bytes ht hi hz hsize hby hzs hsz v n xs hs hown A m c news hx hr h1 h63 hbytes hbase h
theorem step_append_bytes {P : Program} {w : World} {ops : Array Oper} {o : Oper} {a : Act} {K : Act → World → Prop} {Q : Exit → Act → World → Prop} {E : Prop} {t e : TypeId} (ht : P.underlying t = some (.slice e))
    (hinfo : (P.info? e).map (fun i => (i.zero, i.size, i.bytes)) = some (some (.int .u8 0), 1, 1)) (hgd : o.guard = none) (s x : Operand)
    (ho : o.op = .call { callee := .builtin .append, args := #[s, x], argTypes := #[t, t] })
    (base : Nat) (v : Value) (n : Nat) (xl : List UInt8) (hs : a.eval s = v) (hown : w.ownsRow base e 1 v n (xl.map bv))
    (A : Option Addr) (m c : Nat) (nl : List UInt8) (hx : a.eval x = .slice A m c) (hm : m = nl.length) (hr : RB w A nl) (hbytes : n + m ≤ 140737488355328) (hbase : base ≤ w.heap.size)
    (h : ∀ v' w', w'.ownsRow base e 1 v' (n + m) ((xl ++ nl).map bv) → w.grownBy w' v.ownBlock → (v'.ownBlock = v.ownBlock ∨ v'.ownBlock = some w.heap.size) → K (a.put o.dst v') w') :
    if Region.wanted o (yielded ops a.tmps) = true then Oper.wp P o a w K Q else E := by
  have hw : Region.wanted o (yielded ops a.tmps) = true := by simp [Region.wanted, hgd]
  rw [if_pos hw]
  exact wp_append_bytes ht hinfo s x ho base v n xl hs hown A m c nl hx hm hr hbytes hbase h
theorem chg6 (v0 v1 v2 v3 v4 v5 : Value) (b : Nat) (w : World) : Chg (· = b) w ((((((w.setCell ⟨b, 0, none⟩ v0).setCell ⟨b, 1, none⟩ v1).setCell ⟨b, 2, none⟩ v2).setCell ⟨b, 3, none⟩ v3).setCell ⟨b, 4, none⟩ v4).setCell ⟨b, 5, none⟩ v5) :=
  ((((((Chg.refl (· = b) w).setCell ⟨b, 0, none⟩ v0 (.inl rfl)).setCell ⟨b, 1, none⟩ v1 (.inl rfl)).setCell ⟨b, 2, none⟩ v2 (.inl rfl)).setCell ⟨b, 3, none⟩ v3 (.inl rfl)).setCell ⟨b, 4, none⟩ v4 (.inl rfl)).setCell ⟨b, 5, none⟩ v5 (.inl rfl)
end Go.Proofs.YtbpebngjpecncaaGreatDoor
