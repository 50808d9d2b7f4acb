/-
  Rows of records in memory; what is kept where rows of one type alone may have changed. No program in sight.
-/
import Derived.Test.YtbpebngjpecncaaGreatDoorMem
namespace Go.Proofs.YtbpebngjpecncaaGreatDoor
set_option linter.unusedVariables false
set_option linter.unusedSimpArgs false
set_option maxRecDepth 100000
open Go Go.RowKit

/-- Blocks of other elements than e are as they were. -/
structure Keeps (e : TypeId) (w w' : World) : Prop where
  size : w.heap.size ≤ w'.heap.size
  block : ∀ (k : Nat) (cs : Array Value) (T : TypeId) (fr : Nat × Nat), w.heap[k]? = some (.cells cs T fr) → T ≠ e → w'.heap[k]? = some (.cells cs T fr)

theorem Keeps.refl (e : TypeId) (w : World) : Keeps e w w := ⟨Nat.le_refl _, fun _ _ _ _ h _ => h⟩
theorem Keeps.trans {e : TypeId} {a b c : World} (h : Keeps e a b) (k : Keeps e b c) : Keeps e a c := ⟨Nat.le_trans h.size k.size, fun i cs T fr hi hT => k.block i cs T fr (h.block i cs T fr hi hT) hT⟩
theorem Keeps.of_below {e : TypeId} {w w' : World} (h : Below w.heap.size w w') : Keeps e w w' := ⟨h.size, fun k cs T fr hk _ => by
  have hlt : k < w.heap.size := (Array.getElem?_eq_some_iff.1 hk).1
  rw [h.block k hlt]
  exact hk⟩
theorem Keeps.drewN {e : TypeId} {a w : World} (h : Keeps e a w) (n : Nat) : Keeps e a (w.drewN n) := ⟨h.size, h.block⟩
theorem Keeps.alloc {e : TypeId} {a w : World} (h : Keeps e a w) (o : Obj) : Keeps e a (w.alloc o) := h.trans (.of_below ((Below.refl _ w).alloc (Nat.le_refl _) o))
theorem Keeps.of_grown {e : TypeId} {w w' : World} {base size n : Nat} {v : Value} {xs : List Value} (hown : w.ownsRow base e size v n xs) (hg : w.grownBy w' v.ownBlock) : Keeps e w w' := ⟨hg.size, fun k cs T fr hk hT => by
  have hlt : k < w.heap.size := (Array.getElem?_eq_some_iff.1 hk).1
  rw [hg.block k hlt]
  · exact hk
  · intro he
    rcases hown.2 with ⟨rfl, _⟩ | ⟨g, cap, cur, rfl, _, hh, _⟩
    · simp [Value.ownBlock] at he
    · have : k = g := by simpa [Value.ownBlock] using he
      subst this
      rw [hh] at hk
      injection hk with hk
      injection hk with _ h2
      exact hT h2.symm⟩
theorem Keeps.of_chg {e : TypeId} {S : Nat → Prop} {w w' : World} (h : Chg S w w') (hS : ∀ k, k < w.heap.size → S k → ∃ (cs : Array Value) (fr : Nat × Nat), w.heap[k]? = some (.cells cs e fr)) : Keeps e w w' := ⟨h.size, fun k cs T fr hk hT => by
  have hlt : k < w.heap.size := (Array.getElem?_eq_some_iff.1 hk).1
  rw [h.block k hlt]
  · exact hk
  · intro hs
    obtain ⟨cs', fr', h'⟩ := hS k hlt hs
    rw [h'] at hk
    injection hk with hk
    injection hk with _ h2
    exact hT h2.symm⟩

/-- The slice at A reads as vs, its block is of elements T. -/
def RT (w : World) (T : TypeId) (A : Option Addr) (size n : Nat) (vs : List Value) : Prop :=
  vs.length = n * size ∧ (0 < n → ∃ (g o : Nat) (cur : Array Value) (fr : Nat × Nat), A = some ⟨g, o, none⟩ ∧ w.heap[g]? = some (.cells cur T fr) ∧ ∀ j u, vs[j]? = some u → cur[o + j]? = some u)

theorem RT.empty (w : World) (T : TypeId) (A : Option Addr) (size : Nat) : RT w T A size 0 [] := ⟨by simp, fun h => absurd h (Nat.lt_irrefl 0)⟩
theorem RT.keeps {e T : TypeId} {w w' : World} {A : Option Addr} {size n : Nat} {vs : List Value} (h : RT w T A size n vs) (hk : Keeps e w w') (hT : T ≠ e) : RT w' T A size n vs :=
  ⟨h.1, fun h0 => by
    obtain ⟨g, o, cur, fr, hA, hg, hc⟩ := h.2 h0
    exact ⟨g, o, cur, fr, hA, hk.block g _ _ _ hg hT, hc⟩⟩
theorem RT.later {T : TypeId} {w w' : World} {A : Option Addr} {size n : Nat} {vs : List Value} (h : RT w T A size n vs) (hb : Below w.heap.size w w') : RT w' T A size n vs :=
  ⟨h.1, fun h0 => by
    obtain ⟨g, o, cur, fr, hA, hg, hc⟩ := h.2 h0
    exact ⟨g, o, cur, fr, hA, (hb.block g (Array.getElem?_eq_some_iff.1 hg).1).trans hg, hc⟩⟩
theorem RT.rc {T : TypeId} {w : World} {A : Option Addr} {size n : Nat} {vs : List Value} (h : RT w T A size n vs) : RC w A size n vs :=
  ⟨h.1, fun h0 => by
    obtain ⟨g, o, cur, fr, hA, hg, hc⟩ := h.2 h0
    exact ⟨_, hA, fun j u hu => by
      rw [add_off, cell_of_row w g (o + j) _ _ _ hg]
      exact hc j u hu⟩⟩
theorem RT.of_owns {w : World} {base : Nat} {e : TypeId} {size : Nat} {v : Value} {n : Nat} {vs : List Value} (h : w.ownsRow base e size v n vs) :
    ∃ A c, v = .slice A n c ∧ RT w e A size n vs ∧ n ≤ c ∧ c ≤ maxLen := by
  rcases h.2 with ⟨rfl, h0⟩ | ⟨g, cap, cur, rfl, hbg, hg, hnc, hcm, hcs, htake⟩
  · subst h0
    exact ⟨none, 0, rfl, ⟨h.1, fun h => absurd h (Nat.lt_irrefl 0)⟩, Nat.le_refl _, Nat.zero_le _⟩
  · refine ⟨_, cap, rfl, ⟨h.1, fun _ => ⟨g, 0, cur, (0, 0), rfl, hg, fun j u hu => ?_⟩⟩, hnc, hcm⟩
    rw [← htake, List.getElem?_take] at hu
    split at hu
    · simpa using hu
    · cases hu
theorem RT.new {w : World} {vs : List Value} {T : TypeId} {n : Nat} (hn : n = vs.length) : RT (w.alloc (.cells vs.toArray T)) T (some ⟨w.heap.size, 0, none⟩) 1 n vs :=
  ⟨by omega, fun _ => ⟨_, 0, vs.toArray, (0, 0), rfl, heap_alloc_new w _, fun j u hu => by simpa using hu⟩⟩
theorem RT.bytes {w : World} {T : TypeId} {A : Option Addr} {n : Nat} {l : List UInt8} (h : RT w T A 1 n (l.map bv)) : RB w A l := by
  by_cases h0 : l = []
  · exact .inl h0
  · have hl : n = l.length := by have := h.1; simp at this; omega
    have hp : 0 < l.length := List.length_pos_iff.2 h0
    obtain ⟨g, o, cur, fr, rfl, hg, hc⟩ := h.2 (by omega)
    refine .inr ⟨g, o, rfl, fun i hi => ?_⟩
    rw [cell_of_row w g (o + i) _ _ _ hg]
    exact hc i _ (by simp [hi, bv])
/-- A part of a row. -/
theorem RT.lt {w : World} {T : TypeId} {A : Option Addr} {size n : Nat} {vs : List Value} (h : RT w T A size n vs) (h0 : 0 < n) : ∃ g o, A = some ⟨g, o, none⟩ ∧ g < w.heap.size := by
  obtain ⟨g, o, cur, fr, hA, hg, _⟩ := h.2 h0
  exact ⟨g, o, hA, (Array.getElem?_eq_some_iff.1 hg).1⟩

/-- Records: chunks of cells, each read as one by R. -/
def Recs {α : Type} (R : World → List Value → α → Prop) (w : World) (size n : Nat) (vs : List Value) (xs : List α) : Prop :=
  ∃ vss : List (List Value), vs = vss.flatten ∧ vss.length = n ∧ xs.length = n ∧ ∀ (k : Nat) (c : List Value) (x : α), vss[k]? = some c → xs[k]? = some x → c.length = size ∧ R w c x

theorem Recs.nil {α : Type} (R : World → List Value → α → Prop) (w : World) (size : Nat) : Recs R w size 0 [] [] := ⟨[], rfl, rfl, rfl, fun k c x h => by simp at h⟩
theorem Recs.mono {α : Type} {R : World → List Value → α → Prop} {w w' : World} {size n : Nat} {vs : List Value} {xs : List α} (h : Recs R w size n vs xs) (hR : ∀ c x, R w c x → R w' c x) : Recs R w' size n vs xs := by
  obtain ⟨vss, e, h1, h2, h3⟩ := h
  exact ⟨vss, e, h1, h2, fun k c x hc hx => ⟨(h3 k c x hc hx).1, hR c x (h3 k c x hc hx).2⟩⟩
theorem Recs.push {α : Type} {R : World → List Value → α → Prop} {w : World} {size n : Nat} {vs : List Value} {xs : List α} (h : Recs R w size n vs xs) {c : List Value} {x : α} (hc : c.length = size) (hR : R w c x) : Recs R w size (n + 1) (vs ++ c) (xs ++ [x]) := by
  obtain ⟨vss, e, h1, h2, h3⟩ := h
  refine ⟨vss ++ [c], by simp [e], by simp [h1], by simp [h2], fun k d y hd hy => ?_⟩
  by_cases hk : k < n
  · rw [List.getElem?_append_left (by omega)] at hd hy
    exact h3 k d y hd hy
  · rw [List.getElem?_append_right (by omega)] at hd hy
    have hk0 : k = n := by
      have := (List.getElem?_eq_some_iff.1 hd).1
      simp at this
      omega
    subst hk0
    rw [h1] at hd
    rw [h2] at hy
    simp at hd hy
    subst hd
    subst hy
    exact ⟨hc, hR⟩
theorem flatten_at {α : Type} : ∀ (vss : List (List α)) (size : Nat) (_ : ∀ c ∈ vss, c.length = size) (k : Nat) (c : List α) (_ : vss[k]? = some c) (j : Nat) (u : α) (_ : c[j]? = some u), vss.flatten[k * size + j]? = some u
  | [], _, _, k, c, h, _, _, _ => by simp at h
  | d :: r, size, hs, 0, c, h, j, u, hu => by
    simp at h
    subst h
    have := (List.getElem?_eq_some_iff.1 hu).1
    rw [List.flatten_cons, List.getElem?_append_left (by omega)]
    simpa using hu
  | d :: r, size, hs, k + 1, c, h, j, u, hu => by
    have hd := hs d (by simp)
    have e : (k + 1) * size + j = d.length + (k * size + j) := by rw [hd, Nat.succ_mul]; omega
    rw [List.flatten_cons, e, List.getElem?_append_right (by omega)]
    have := flatten_at r size (fun c hc => hs c (by simp [hc])) k c (by simpa using h) j u hu
    simpa using this
theorem Recs.get {α : Type} {R : World → List Value → α → Prop} {w : World} {size n : Nat} {vs : List Value} {xs : List α} (h : Recs R w size n vs xs) {k : Nat} (hk : k < n) :
    ∃ c x, xs[k]? = some x ∧ c.length = size ∧ R w c x ∧ ∀ j u, c[j]? = some u → vs[k * size + j]? = some u := by
  obtain ⟨vss, e, h1, h2, h3⟩ := h
  have hc : vss[k]? = some (vss[k]'(by omega)) := List.getElem?_eq_getElem (by omega)
  have hx : xs[k]? = some (xs[k]'(by omega)) := List.getElem?_eq_getElem (by omega)
  obtain ⟨hl, hR⟩ := h3 k _ _ hc hx
  refine ⟨_, _, hx, hl, hR, fun j u hu => ?_⟩
  subst e
  refine flatten_at vss size (fun c hc' => ?_) k _ hc j u hu
  obtain ⟨i, hi, rfl⟩ := List.getElem_of_mem hc'
  exact (h3 i _ _ (List.getElem?_eq_getElem hi) (List.getElem?_eq_getElem (by omega))).1
theorem RT.at {w : World} {T : TypeId} {A : Option Addr} {size n : Nat} {vs : List Value} (h : RT w T A size n vs) {j : Nat} {u : Value} (hu : vs[j]? = some u) : ∃ g o, A = some ⟨g, o, none⟩ ∧ w.cell? ⟨g, o + j, none⟩ = some u := by
  have hlt : j < vs.length := (List.getElem?_eq_some_iff.1 hu).1
  have h0 : 0 < n := by
    rcases Nat.eq_zero_or_pos n with e | e
    · have := h.1
      rw [e] at this
      simp at this
      rw [this] at hlt
      simp at hlt
    · exact e
  obtain ⟨g, o, cur, fr, hA, hg, hc⟩ := h.2 h0
  exact ⟨g, o, hA, by rw [cell_of_row w g (o + j) _ _ _ hg]; exact hc j u hu⟩
end Go.Proofs.YtbpebngjpecncaaGreatDoor
