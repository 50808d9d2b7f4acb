/-
  Laws for an append inside a drawn region; owners carried on. No program in sight.
-/
import Derived.Test.YtoobkbnhfkfoaaaRecs
import Derived.Deep.AppendLies
namespace Go.Proofs.Ytoobkbnhfkfoaaa
set_option linter.unusedVariables false
set_option linter.unusedSimpArgs false
open Go Go.RowKit

theorem owns_mono {w : World} {base base' : Nat} {e : TypeId} {size : Nat} {v : Value} {n : Nat} {xs : List Value} (h : w.ownsRow base e size v n xs) (hb : base' ≤ base) : w.ownsRow base' e size v n xs :=
  ⟨h.1, h.2.imp id fun ⟨g, cap, cur, hv, hbg, r⟩ => ⟨g, cap, cur, hv, Nat.le_trans hb hbg, r⟩⟩
theorem owns_later {w w' : World} {base : Nat} {e : TypeId} {size : Nat} {v : Value} {n : Nat} {xs : List Value} (h : w.ownsRow base e size v n xs) (hb : Below w.heap.size w w') : w'.ownsRow base e size v n xs :=
  h.kept (row := none) ⟨hb.os, hb.tape, hb.output, hb.size, fun x hx _ => hb.block x hx⟩ (by cases hq : v.ownBlock <;> simp)
/-- An owned row is kept where blocks of another element type alone have changed. -/
theorem owns_keeps {w w' : World} {base : Nat} {e f : TypeId} {size : Nat} {v : Value} {n : Nat} {xs : List Value} (h : w.ownsRow base e size v n xs) (hk : Keeps f w w') (hne : e ≠ f) : w'.ownsRow base e size v n xs :=
  ⟨h.1, h.2.imp id fun ⟨g, cap, cur, hv, hbg, hg, r⟩ => ⟨g, cap, cur, hv, hbg, hk.block g _ _ _ hg hne, r⟩⟩
theorem owns_cellsN {w : World} {base : Nat} {e : TypeId} {size : Nat} {v : Value} {n : Nat} {vs : List Value} (h : w.ownsRow base e size v n vs) (h0 : 0 < n) :
    ∃ g cap, v = .slice (some ⟨g, 0, none⟩) n cap ∧ n ≤ cap ∧ base ≤ g ∧ g < w.heap.size ∧ ∀ j u, vs[j]? = some u → w.cell? ⟨g, j, none⟩ = some u := by
  obtain ⟨A, c, rfl, hR, hc, -⟩ := RT.of_owns h
  obtain ⟨g, o, cur, fr, rfl, hg, hcl⟩ := hR.2 h0
  rcases h.2 with ⟨h1, _⟩ | ⟨g', cap', cur', h1, hb, _⟩
  · simp at h1
  · simp only [Value.slice.injEq, Option.some.injEq, Addr.mk.injEq, and_true] at h1
    obtain ⟨⟨rfl, rfl⟩, -, rfl⟩ := h1
    refine ⟨_, _, rfl, hc, hb, (Array.getElem?_eq_some_iff.1 hg).1, fun j u hu => ?_⟩
    rw [cell_of_row w _ j _ _ _ hg]
    simpa using hcl j u hu
/-- An owned row of records: where each lies. -/
theorem rec_at {α : Type} {R : World → List Value → α → Prop} {w : World} {base : Nat} {e : TypeId} {size : Nat} {v : Value} {n : Nat} {vs : List Value} {xs : List α} (h : w.ownsRow base e size v n vs) (hr : Recs R w size n vs xs) (hs : 0 < size) :
    ∃ A c, v = .slice A n c ∧ n ≤ c ∧ c ≤ maxLen ∧ ∀ k, k < n → ∃ g cs x, A = some ⟨g, 0, none⟩ ∧ base ≤ g ∧ g < w.heap.size ∧ xs[k]? = some x ∧ cs.length = size ∧ R w cs x ∧ ∀ i u, cs[i]? = some u → w.cell? ⟨g, k * size + i, none⟩ = some u := by
  obtain ⟨A, c, rfl, -, hc, hm⟩ := RT.of_owns h
  refine ⟨A, c, rfl, hc, hm, fun k hk => ?_⟩
  obtain ⟨g, cap, hv, -, hb, hlt, hcl⟩ := owns_cellsN h (by omega)
  simp only [Value.slice.injEq] at hv
  obtain ⟨rfl, -, rfl⟩ := hv
  obtain ⟨cs, x, hx, hl, hR, hat⟩ := hr.get hk
  exact ⟨g, cs, x, rfl, hb, hlt, hx, hl, hR, fun i u hu => hcl _ u (hat i u hu)⟩
theorem rc_newN {w : World} {vs : List Value} {T : TypeId} {k size n : Nat} (hk : k = w.heap.size) (hn : vs.length = n * size) : RC (w.alloc (.cells vs.toArray T)) (some ⟨k, 0, none⟩) size n vs := by
  subst hk
  refine ⟨hn, fun _ => ⟨_, rfl, fun j u hu => ?_⟩⟩
  rw [add_off, Nat.zero_add, cell_of_row _ _ j _ _ _ (heap_alloc_new w (.cells vs.toArray T)), List.getElem?_toArray]
  exact hu
theorem rc_later {w w' : World} {A : Option Addr} {k n : Nat} {vs : List Value} (h : RC w A k n vs) (hb : Below w.heap.size w w') : RC w' A k n vs :=
  ⟨h.1, fun h0 => by
    obtain ⟨a, rfl, hc⟩ := h.2 h0
    exact ⟨a, rfl, fun j u hu => (hb.cell (p := a.add j) (World.block_lt_of_cell? w _ (hc j u hu))).trans (hc j u hu)⟩⟩

theorem RB.drew {w : World} {A : Option Addr} {l : List UInt8} (h : RB w A l) : RB w.drew A l := h.keep fun _ _ _ => by simp
/-- One record of so many cells is appended, inside a region that draws its order. -/
theorem step_append_any {P : Program} {w : World} {ops : Array Oper} {o : Oper} {a : Act} {K : Act → World → Prop} {Q : Exit → Act → World → Prop} {E : Prop} (hgd : o.guard = none) (s x : Operand) (t : TypeId)
    (ho : o.op = .call { callee := .builtin .append, args := #[s, x], argTypes := #[t, t] })
    (base : Nat) (e : TypeId) (i : TypeInfo) (z : Value) (size bytes : Nat) (ht : P.underlying t = some (.slice e)) (hi : P.info? e = some i) (hz : i.zero = some z)
    (hsize : i.size = size) (hby : i.bytes = bytes) (hzs : z.cells.size = size) (hsz : 0 < size)
    (v : Value) (n : Nat) (xs : List Value) (hs : a.eval s = v) (hown : w.ownsRow base e size v n xs)
    (A : Option Addr) (m c : Nat) (news : List Value) (hx : a.eval x = .slice A m c) (hr : RC w A size m news) (h1 : ∀ u ∈ news, u.oneCell' = true)
    (h63 : n + m ≤ maxLen) (hbytes : (n + m) * bytes ≤ 140737488355328) (hbase : base ≤ w.heap.size)
    (h : ∀ v' w', w'.ownsRow base e size v' (n + m) (xs ++ news) → w.grownBy w' v.ownBlock → (v'.ownBlock = v.ownBlock ∨ v'.ownBlock = some w.heap.size) → K (a.put o.dst v') w') :
    if Region.wanted o (yielded ops a.tmps) = true then Oper.wp P o a w K Q else E := by
  have hw : Region.wanted o (yielded ops a.tmps) = true := by simp [Region.wanted, hgd]
  rw [if_pos hw]
  exact wp_append_any s x t ho base e i z size bytes ht hi hz hsize hby hzs hsz v n xs hs hown A m c news hx hr h1 h63 hbytes hbase h
theorem step_append_bytes {P : Program} {w : World} {ops : Array Oper} {o : Oper} {a : Act} {K : Act → World → Prop} {Q : Exit → Act → World → Prop} {E : Prop} {t e : TypeId} (ht : P.underlying t = some (.slice e))
    (hinfo : (P.info? e).map (fun i => (i.zero, i.size, i.bytes)) = some (some (.int .u8 0), 1, 1)) (hgd : o.guard = none) (s x : Operand)
    (ho : o.op = .call { callee := .builtin .append, args := #[s, x], argTypes := #[t, t] })
    (base : Nat) (v : Value) (n : Nat) (xl : List UInt8) (hs : a.eval s = v) (hown : w.ownsRow base e 1 v n (xl.map bv))
    (A : Option Addr) (m c : Nat) (nl : List UInt8) (hx : a.eval x = .slice A m c) (hm : m = nl.length) (hr : RB w A nl) (hbytes : n + m ≤ 140737488355328) (hbase : base ≤ w.heap.size)
    (h : ∀ v' w', w'.ownsRow base e 1 v' (n + m) ((xl ++ nl).map bv) → w.grownBy w' v.ownBlock → (v'.ownBlock = v.ownBlock ∨ v'.ownBlock = some w.heap.size) → K (a.put o.dst v') w') :
    if Region.wanted o (yielded ops a.tmps) = true then Oper.wp P o a w K Q else E := by
  have hw : Region.wanted o (yielded ops a.tmps) = true := by simp [Region.wanted, hgd]
  rw [if_pos hw]
  exact wp_append_bytes ht hinfo s x ho base v n xl hs hown A m c nl hx hm hr hbytes hbase h
theorem chg6 (v0 v1 v2 v3 v4 v5 : Value) (b : Nat) (w : World) : Chg (· = b) w ((((((w.setCell ⟨b, 0, none⟩ v0).setCell ⟨b, 1, none⟩ v1).setCell ⟨b, 2, none⟩ v2).setCell ⟨b, 3, none⟩ v3).setCell ⟨b, 4, none⟩ v4).setCell ⟨b, 5, none⟩ v5) :=
  ((((((Chg.refl (· = b) w).setCell ⟨b, 0, none⟩ v0 (.inl rfl)).setCell ⟨b, 1, none⟩ v1 (.inl rfl)).setCell ⟨b, 2, none⟩ v2 (.inl rfl)).setCell ⟨b, 3, none⟩ v3 (.inl rfl)).setCell ⟨b, 4, none⟩ v4 (.inl rfl)).setCell ⟨b, 5, none⟩ v5 (.inl rfl)
end Go.Proofs.Ytoobkbnhfkfoaaa
