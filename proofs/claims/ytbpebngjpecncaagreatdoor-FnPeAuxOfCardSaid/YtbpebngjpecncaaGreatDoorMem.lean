/-
  Laws on bytes in memory: conversion to a text, the search of a byte, a slice of a slice, append of whatever slice, copies. No program in sight.
-/
import Derived.Test.YtbpebngjpecncaaGreatDoorKit
import Derived.Maps.AppendAt
import Derived.Laws.CopyOwn
import Derived.Shelf.Bytes.SlIndexAt
namespace Go.Proofs.YtbpebngjpecncaaGreatDoor
set_option linter.unusedVariables false
set_option linter.unusedSimpArgs false
set_option maxRecDepth 100000
open Go Go.RowKit

section
variable {P : Program}

/-- The first cells of the slice at A, each element of some cells, are these values. -/
def RC (w : World) (A : Option Addr) (size n : Nat) (vs : List Value) : Prop :=
  vs.length = n * size ∧ (0 < n → ∃ a, A = some a ∧ ∀ j u, vs[j]? = some u → w.cell? (a.add j) = some u)

theorem add_off (b o j : Nat) : (⟨b, o, none⟩ : Addr).add j = ⟨b, o + j, none⟩ := by unfold Addr.add; split <;> simp_all

theorem RB.rc {w : World} {A : Option Addr} {l : List UInt8} (h : RB w A l) : RC w A 1 l.length (l.map bv) := by
  refine ⟨by simp, fun h0 => ?_⟩
  rcases h with rfl | ⟨b, o, rfl, h⟩
  · simp at h0
  · refine ⟨_, rfl, fun j u hu => ?_⟩
    rw [add_off]
    rw [List.getElem?_map] at hu
    cases hj : l[j]? with
    | none => simp [hj] at hu
    | some x =>
      obtain ⟨hlt, hx⟩ := List.getElem?_eq_some_iff.1 hj
      simp [hj] at hu
      subst hu
      rw [h j hlt, hx]
      rfl

theorem bv_one (l : List UInt8) : ∀ u ∈ l.map bv, u.oneCell' = true := by
  intro u hu
  obtain ⟨x, _, rfl⟩ := List.mem_map.1 hu
  rfl

/-- The numbers of bytes. -/
def ints (l : List UInt8) : List Int := l.map fun x => (x.toNat : Int)
theorem ints_back (l : List UInt8) : (ints l).map (fun n => UInt8.ofNat n.toNat) = l := by
  unfold ints
  rw [List.map_map]
  conv => rhs; rw [← List.map_id l]
  apply List.map_congr_left
  intro x _
  simp
theorem ints_cell {w : World} {b o : Nat} {l : List UInt8} (h : RB w (some ⟨b, o, none⟩) l) (i : Nat) (hi : i < l.length) : w.cell? ⟨b, o + i, none⟩ = some (.int .u8 ((ints l).getD i 0)) := by
  rw [h.at hi]
  simp [ints, List.getD, hi]

/-- A slice of bytes as a text. -/
theorem run_conv_RB {w : World} {src e dst : TypeId} (hs : P.underlying src = some (.slice e)) (he : P.underlying e = some (.int .u8)) (hd : P.underlying dst = some .string) {A : Option Addr} {l : List UInt8} (h : RB w A l) {n c : Nat} (hn : n = l.length) :
    (convert src dst (.slice A n c)).run P w = .ok (.string ⟨l.toArray⟩) w := by
  subst hn
  rcases A with _ | a
  · have h0 : l = [] := by
      rcases h with h | ⟨b, o, e, _⟩
      · exact h
      · cases e
    subst h0
    exact run_convert_bytes_nil w src e hs he _ _ dst hd
  · rcases h with rfl | ⟨b, o, ea, h⟩
    · rw [run_convert_bytes_string w src dst e _ _ c hs he hd, run_bytesToString w a _ c [] (by simp [loadCells, loadCellsFrom])]
      rfl
    · cases ea
      have hh : RB w (some ⟨b, o, none⟩) l := .inr ⟨b, o, rfl, h⟩
      rw [run_convert_bytes_arg w src e hs he b o l.length c (ints l) (by simp [ints]) (ints_cell hh) dst hd]
      unfold strOfNums
      rw [ints_back]

theorem run_index0_RB {w : World} {A : Option Addr} {l : List UInt8} (h : RB w A l) (n c : Nat) (hn : n = l.length) :
    (Extern.BytealgIndexByte.indexByte #[.slice A n c, .int .u8 0]).run P w = .ok (.int .i64 (Lib.indexByte l 0)) w := by
  subst hn
  rcases A with _ | a
  · have h0 : l = [] := by
      rcases h with h | ⟨b, o, e, _⟩
      · exact h
      · cases e
    subst h0
    rfl
  · rcases h with rfl | ⟨b, o, ea, h⟩
    · exact Lib.run_indexByteAt w a 0 c [] rfl (fun i hi => absurd hi (Nat.not_lt_zero i)) 0
    · cases ea
      have hh : RB w (some ⟨b, o, none⟩) l := .inr ⟨b, o, rfl, h⟩
      have hr := Lib.run_indexByteAt (P := P) w ⟨b, o, none⟩ l.length c (ints l) (by simp [ints]) (fun i hi => by rw [add_off]; exact ints_cell hh i hi) 0
      rw [show Lib.bytesOf (ints l) = l from ints_back l] at hr
      exact hr

theorem run_append_none {w : World} (base : Nat) (t ty e : TypeId) (i : TypeInfo) (size : Nat) (ht : P.underlying t = some (.slice e)) (hi : P.info? e = some i)
    (v : Value) (n : Nat) (xs : List Value) (hown : w.ownsRow base e size v n xs) (c : Nat) :
    (Builtin.append_ #[t, t] ty #[v, .slice none 0 c]).run P w = .ok v w := by
  rcases hown.2 with ⟨rfl, rfl⟩ | ⟨g, cap, cur, rfl, hbg, hg, hnc, hcm, hcs, htake⟩
  · simp [Builtin.append_, run_underlying ht, sizeOf, typeInfo, hi, Builtin.lenOf, Builtin.firstCells]
  · simp [Builtin.append_, run_underlying ht, sizeOf, typeInfo, hi, Builtin.lenOf, Builtin.firstCells, hnc, storeCells]

theorem run_append_any {w : World} (base : Nat) (t ty e : TypeId) (i : TypeInfo) (z : Value) (size bytes : Nat) (ht : P.underlying t = some (.slice e)) (hi : P.info? e = some i) (hz : i.zero = some z)
    (hsize : i.size = size) (hby : i.bytes = bytes) (hzs : z.cells.size = size) (hsz : 0 < size)
    (v : Value) (n : Nat) (xs : List Value) (hown : w.ownsRow base e size v n xs)
    (A : Option Addr) (m c : Nat) (news : List Value) (hr : RC w A size m news) (h1 : ∀ u ∈ news, u.oneCell' = true)
    (h63 : n + m ≤ maxLen) (hbytes : (n + m) * bytes ≤ 140737488355328) (hbase : base ≤ w.heap.size) :
    ∃ v' w', (Builtin.append_ #[t, t] ty #[v, .slice A m c]).run P w = .ok v' w' ∧ w'.ownsRow base e size v' (n + m) (xs ++ news) ∧ w.grownBy w' v.ownBlock ∧
      (v'.ownBlock = v.ownBlock ∨ v'.ownBlock = some w.heap.size) := by
  rcases A with _ | ad
  · have hm : m = 0 := by
      rcases Nat.eq_zero_or_pos m with h0 | h0
      · exact h0
      · obtain ⟨a, h, _⟩ := hr.2 h0
        cases h
    subst hm
    have hn : news = [] := List.eq_nil_of_length_eq_zero (by simpa using hr.1)
    subst hn
    exact ⟨v, w, run_append_none base t ty e i size ht hi v n xs hown c, by simpa using hown, ⟨rfl, rfl, rfl, Nat.le_refl _, fun _ _ _ => rfl⟩, .inl rfl⟩
  · obtain ⟨v', w', hrun, h2, h3, _, h5⟩ := run_append_own_at (P := P) w base t ty e i z size bytes ht hi hz hsize hby hzs hsz v n xs hown ad m c news hr.1 (fun j u hu => by
      rcases Nat.eq_zero_or_pos m with h0 | h0
      · subst h0
        have hn : news = [] := List.eq_nil_of_length_eq_zero (by simpa using hr.1)
        subst hn
        simp at hu
      · obtain ⟨a, ha, hc⟩ := hr.2 h0
        cases ha
        exact hc j u hu) h1 h63 hbytes hbase
    exact ⟨v', w', hrun, h2, h3, h5⟩

theorem wp_append_any {w : World} {o : Oper} {a : Act} {K : Act → World → Prop} {Q : Exit → Act → World → Prop} (s x : Operand) (t : TypeId)
    (ho : o.op = .call { callee := .builtin .append, args := #[s, x], argTypes := #[t, t] })
    (base : Nat) (e : TypeId) (i : TypeInfo) (z : Value) (size bytes : Nat) (ht : P.underlying t = some (.slice e)) (hi : P.info? e = some i) (hz : i.zero = some z)
    (hsize : i.size = size) (hby : i.bytes = bytes) (hzs : z.cells.size = size) (hsz : 0 < size)
    (v : Value) (n : Nat) (xs : List Value) (hs : a.eval s = v) (hown : w.ownsRow base e size v n xs)
    (A : Option Addr) (m c : Nat) (news : List Value) (hx : a.eval x = .slice A m c) (hr : RC w A size m news) (h1 : ∀ u ∈ news, u.oneCell' = true)
    (h63 : n + m ≤ maxLen) (hbytes : (n + m) * bytes ≤ 140737488355328) (hbase : base ≤ w.heap.size)
    (h : ∀ v' w', w'.ownsRow base e size v' (n + m) (xs ++ news) → w.grownBy w' v.ownBlock → (v'.ownBlock = v.ownBlock ∨ v'.ownBlock = some w.heap.size) → K (a.put o.dst v') w') : o.wp P a w K Q := by
  obtain ⟨v', w', hrun, h2, h3, h4⟩ := run_append_any (P := P) base t o.type e i z size bytes ht hi hz hsize hby hzs hsz v n xs hown A m c news hr h1 h63 hbytes hbase
  unfold Oper.wp execOp
  simp only [ho, resolve, invoke, builtin, Sem.run_bind, Sem.run_pure, Result.andThen_ok, List.map_toArray, List.map_cons, List.map_nil, hs, hx, hrun]
  exact h v' w' h2 h3 h4

theorem wpList_append_any {w : World} {ops : Array Oper} {rest : List Oper} {o : Oper} {a : Act} {Q : Exit → Act → World → Prop} (hgd : o.guard = none) (s x : Operand) (t : TypeId)
    (ho : o.op = .call { callee := .builtin .append, args := #[s, x], argTypes := #[t, t] })
    (base : Nat) (e : TypeId) (i : TypeInfo) (z : Value) (size bytes : Nat) (ht : P.underlying t = some (.slice e)) (hi : P.info? e = some i) (hz : i.zero = some z)
    (hsize : i.size = size) (hby : i.bytes = bytes) (hzs : z.cells.size = size) (hsz : 0 < size)
    (v : Value) (n : Nat) (xs : List Value) (hs : a.eval s = v) (hown : w.ownsRow base e size v n xs)
    (A : Option Addr) (m c : Nat) (news : List Value) (hx : a.eval x = .slice A m c) (hr : RC w A size m news) (h1 : ∀ u ∈ news, u.oneCell' = true)
    (h63 : n + m ≤ maxLen) (hbytes : (n + m) * bytes ≤ 140737488355328) (hbase : base ≤ w.heap.size)
    (h : ∀ v' w', w'.ownsRow base e size v' (n + m) (xs ++ news) → w.grownBy w' v.ownBlock → (v'.ownBlock = v.ownBlock ∨ v'.ownBlock = some w.heap.size) → wpList P ops Q rest (a.put o.dst v') w') : wpList P ops Q (o :: rest) a w :=
  wpList_plain hgd fun _ hK => wp_append_any s x t ho base e i z size bytes ht hi hz hsize hby hzs hsz v n xs hs hown A m c news hx hr h1 h63 hbytes hbase fun v' w' h2 h3 h4 => hK _ _ (h v' w' h2 h3 h4)

/-- The bytes of a row that the call owns are read. -/
theorem RB.of_owns {w : World} {base : Nat} {e : TypeId} {v : Value} {n : Nat} {l : List UInt8} (h : w.ownsRow base e 1 v n (l.map bv)) :
    n = l.length ∧ ∃ A c, v = .slice A n c ∧ RB w A l ∧ n ≤ c ∧ c ≤ maxLen ∧ (∀ a, A = some a → base ≤ a.block ∧ v.ownBlock = some a.block) ∧ (A = none → c = 0) := by
  have hl : n = l.length := by have := h.1; simpa using this.symm
  refine ⟨hl, ?_⟩
  subst hl
  rcases h.2 with ⟨rfl, h0⟩ | ⟨g, cap, cur, rfl, hbg, hg, hnc, hcm, hcs, htake⟩
  · have : l = [] := List.eq_nil_of_length_eq_zero h0
    subst this
    exact ⟨none, 0, rfl, .inl rfl, Nat.le_refl _, Nat.zero_le _, (fun a e => by cases e), fun _ => rfl⟩
  · refine ⟨_, cap, rfl, .inr ⟨g, 0, rfl, fun i hi => ?_⟩, hnc, hcm, (fun a e => by cases e; exact ⟨hbg, rfl⟩), (fun e => by cases e)⟩
    have hc := h.cells (g := g) rfl i (bv l[i]) (by simp [hi])
    rw [add_off] at hc
    exact hc

/-- 's[0:k]' and 's[:k]' lead to the same place. -/
theorem run_slice_to {t e : TypeId} (ht : P.underlying t = some (.slice e)) {i : TypeInfo} (hi : P.info? e = some i) (A : Option Addr) (n c k : Nat) (hk : k ≤ c) (W : World) :
    (Instr.slice t (.slice A n c) none (some (.int .i64 (k : Int))) none).run P W = .ok (.slice A k c) W := by
  have hs : (sizeOf e).run P W = .ok i.size W := by simp [sizeOf, typeInfo, hi]
  have ht' : P.underlying t = some (.slice (P.elem t)) := by simp [Program.elem, ht]
  have he : P.elem t = e := by simp [Program.elem, ht]
  rw [run_slice_h W t A n c ht' .i64 (k : Int) (by omega) (by omega), he, hs]
  cases A <;> simp [sliced, Addr.add]
theorem run_slice_0to {t e : TypeId} (ht : P.underlying t = some (.slice e)) {i : TypeInfo} (hi : P.info? e = some i) (A : Option Addr) (n c k : Nat) (hk : k ≤ c) (W : World) :
    (Instr.slice t (.slice A n c) (some (.int .i64 0)) (some (.int .i64 (k : Int))) none).run P W = .ok (.slice A k c) W := by
  have hs : (sizeOf e).run P W = .ok i.size W := by simp [sizeOf, typeInfo, hi]
  have ht' : P.underlying t = some (.slice (P.elem t)) := by simp [Program.elem, ht]
  have he : P.elem t = e := by simp [Program.elem, ht]
  rw [run_slice_lh W t A n c ht' .i64 .i64 0 (k : Int) (by omega) (by omega) (by omega), he, hs]
  cases A <;> simp [sliced, Addr.add]
end

/-- The text of bytes: those up to the first nought. -/
def text (l : List UInt8) : List UInt8 := l.takeWhile (· != 0)
theorem text_take (l : List UInt8) : l.take (text l).length = text l := by
  unfold text
  induction l with
  | nil => rfl
  | cons x r ih =>
    rw [List.takeWhile_cons]
    split
    · simp [ih]
    · rfl
theorem text_le (l : List UInt8) : (text l).length ≤ l.length := by
  have := congrArg List.length (text_take l)
  simp at this
  omega
theorem index0_none : ∀ (l : List UInt8), (0 : UInt8) ∉ l → Lib.indexByte l 0 = -1 ∧ text l = l
  | [], _ => ⟨rfl, rfl⟩
  | x :: r, h => by
    simp only [List.mem_cons, not_or] at h
    obtain ⟨h1, h2⟩ := index0_none r h.2
    have hx : (x == 0) = false := by simpa using fun e : x = 0 => h.1 e.symm
    have hx' : (x != 0) = true := by simpa using hx
    unfold text at h2
    exact ⟨by simp [Lib.indexByte, hx, h1], by simp [text, hx', h2]⟩
theorem index0_some : ∀ (l : List UInt8), (0 : UInt8) ∈ l → Lib.indexByte l 0 = ((text l).length : Int) ∧ (text l).length < l.length
  | [], h => by cases h
  | x :: r, h => by
    by_cases hx : x = 0
    · subst hx
      exact ⟨rfl, by simp [text]⟩
    · have hr : (0 : UInt8) ∈ r := by
        rcases List.mem_cons.1 h with e | e
        · exact absurd e.symm hx
        · exact e
      obtain ⟨h1, h2⟩ := index0_some r hr
      have hx' : (x == 0) = false := by simpa using hx
      have hx2 : (x != 0) = true := by simpa using hx
      have ht : text (x :: r) = x :: text r := by simp [text, hx2]
      refine ⟨?_, by rw [ht]; simpa using h2⟩
      rw [ht]
      simp only [Lib.indexByte, hx', h1, List.length_cons]
      have : (((text r).length : Int) == -1) = false := by rw [beq_eq_false_iff_ne]; omega
      simp [this]
theorem text_before : ∀ (l : List UInt8) (j : Nat) (_ : j < (text l).length) (hl : j < l.length), (((l[j]).toNat : Int) == 0) = false
  | [], _, hj, _ => by simp [text] at hj
  | x :: r, j, hj, hl => by
    by_cases hx : x = 0
    · subst hx
      simp [text] at hj
    · have hx2 : (x != 0) = true := by simpa using hx
      have ht : text (x :: r) = x :: text r := by simp [text, hx2]
      rw [ht] at hj
      match j, hj, hl with
      | 0, _, _ =>
        have : x.toNat ≠ 0 := fun e => hx (by apply UInt8.toNat_inj.1; simpa using e)
        simpa using this
      | j + 1, hj, hl => exact text_before r j (by simpa using hj) (by simpa using hl)
theorem text_at : ∀ (l : List UInt8) (hl : (text l).length < l.length), (((l[(text l).length]'hl).toNat : Int) == 0) = true
  | [], hl => by simp at hl
  | x :: r, hl => by
    by_cases hx : x = 0
    · subst hx
      simp [text]
    · have hx2 : (x != 0) = true := by simpa using hx
      have ht : text (x :: r) = x :: text r := by simp [text, hx2]
      have := text_at r (by rw [ht] at hl; simpa using hl)
      simpa [ht] using this
theorem RB.take {w : World} {A : Option Addr} {l : List UInt8} (h : RB w A l) (k : Nat) : RB w A (l.take k) := by
  rcases h with rfl | ⟨b, o, rfl, h⟩
  · exact .inl (by simp)
  · refine .inr ⟨b, o, rfl, fun i hi => ?_⟩
    have hi' : i < l.length := by simp at hi; omega
    rw [h i hi']
    simp
theorem RB.below {w w' : World} {B : Nat} (hb : Below B w w') {A : Option Addr} {l : List UInt8} (h : RB w A l) (hA : ∀ a, A = some a → l ≠ [] → a.block < B) : RB w' A l := by
  rcases h with rfl | ⟨b, o, rfl, h⟩
  · exact .inl rfl
  · by_cases h0 : l = []
    · exact .inl h0
    · exact .inr ⟨b, o, rfl, fun i hi => (hb.cell (p := ⟨b, o + i, none⟩) (hA ⟨b, o, none⟩ rfl h0)).trans (h i hi)⟩
theorem RB.later {w w' : World} (hb : Below w.heap.size w w') {A : Option Addr} {l : List UInt8} (h : RB w A l) : RB w' A l := by
  rcases h with rfl | ⟨b, o, rfl, h⟩
  · exact .inl rfl
  · exact .inr ⟨b, o, rfl, fun i hi => (hb.cell (p := ⟨b, o + i, none⟩) (World.block_lt_of_cell? w _ (h i hi))).trans (h i hi)⟩

/-- What a walk is told of a slice of integers that came in: it is nil; or it leads to a row of 'cap' cells, the numbers 'zs' (the first 'len' are its elements), each fitting its kind. -/
def IsRow (k : IntKind) (w : World) (a : Option Addr) (len cap : Nat) (zs : List Int) : Prop :=
  (a = none ∧ len = 0 ∧ cap = 0 ∧ zs = []) ∨
  ∃ x, a = some x ∧ len ≤ cap ∧ cap ≤ maxLen ∧ zs.length = cap ∧ (∀ i, i < zs.length → w.cell? (x.add i) = some (.int k (zs.getD i 0))) ∧ ∀ n ∈ zs, (Lit.int k n).wf = true

theorem byte_of_wf {n : Int} (h : (Lit.int .u8 n).wf = true) : 0 ≤ n ∧ n ≤ 255 := by
  simp [Lit.wf, IntKind.min, IntKind.max, IntKind.signed, IntKind.bits] at h
  omega

/-- A row of bytes is read as bytes. -/
theorem IsRow.bytes {w : World} {a : Option Addr} {len cap : Nat} {zs : List Int} (h : IsRow .u8 w a len cap zs) : ∃ l : List UInt8, len = l.length ∧ RB w a l ∧ len ≤ cap ∧ cap ≤ maxLen := by
  rcases h with ⟨rfl, rfl, rfl, rfl⟩ | ⟨x, rfl, hl, hm, hz, hcell, hwf⟩
  · exact ⟨[], rfl, .inl rfl, Nat.le_refl _, Nat.zero_le _⟩
  · refine ⟨(zs.take len).map fun n => UInt8.ofNat n.toNat, by simp; omega, ?_, hl, hm⟩
    by_cases h0 : len = 0
    · subst h0
      exact .inl (by simp)
    · obtain ⟨b, o, spot⟩ := x
      have hsp : spot = none := by simpa [Addr.add] using World.cell?_spot (hcell 0 (by omega))
      subst hsp
      refine .inr ⟨b, o, rfl, fun i hi => ?_⟩
      have hi' : i < len ∧ i < zs.length := by simp at hi; omega
      have hc := hcell i hi'.2
      rw [add_off] at hc
      rw [hc]
      have hw := byte_of_wf (hwf (zs[i]) (List.getElem_mem hi'.2))
      simp [hi'.2]
      omega

theorem RB.one {w : World} {b o : Nat} {x : UInt8} (h : w.cell? ⟨b, o, none⟩ = some (.int .u8 (x.toNat : Int))) : RB w (some ⟨b, o, none⟩) [x] :=
  .inr ⟨b, o, rfl, fun i hi => by
    have : i = 0 := by simpa using hi
    subst this
    simpa using h⟩

theorem wp_append_bytes {P : Program} {w : World} {o : Oper} {a : Act} {K : Act → World → Prop} {Q : Exit → Act → World → Prop} {t e : TypeId} (ht : P.underlying t = some (.slice e))
    (hinfo : (P.info? e).map (fun i => (i.zero, i.size, i.bytes)) = some (some (.int .u8 0), 1, 1)) (s x : Operand)
    (ho : o.op = .call { callee := .builtin .append, args := #[s, x], argTypes := #[t, t] })
    (base : Nat) (v : Value) (n : Nat) (xl : List UInt8) (hs : a.eval s = v) (hown : w.ownsRow base e 1 v n (xl.map bv))
    (A : Option Addr) (m c : Nat) (nl : List UInt8) (hx : a.eval x = .slice A m c) (hm : m = nl.length) (hr : RB w A nl) (hbytes : n + m ≤ 140737488355328) (hbase : base ≤ w.heap.size)
    (h : ∀ v' w', w'.ownsRow base e 1 v' (n + m) ((xl ++ nl).map bv) → w.grownBy w' v.ownBlock → (v'.ownBlock = v.ownBlock ∨ v'.ownBlock = some w.heap.size) → K (a.put o.dst v') w') : o.wp P a w K Q := by
  obtain ⟨i0, hi, hz0, hz1, hz2⟩ := info_parts hinfo
  subst hm
  refine wp_append_any s x t ho base e i0 (.int .u8 0) 1 1 ht hi hz0 hz1 hz2 rfl (by omega) v n _ hs hown A nl.length c (nl.map bv) hx hr.rc (bv_one nl) (by simp only [maxLen]; omega) (by omega) hbase ?_
  intro v' w' h1 h2 h3
  rw [← List.map_append] at h1
  exact h v' w' h1 h2 h3

theorem wpList_append_bytes {P : Program} {w : World} {ops : Array Oper} {rest : List Oper} {o : Oper} {a : Act} {Q : Exit → Act → World → Prop} {t e : TypeId} (ht : P.underlying t = some (.slice e))
    (hinfo : (P.info? e).map (fun i => (i.zero, i.size, i.bytes)) = some (some (.int .u8 0), 1, 1)) (hgd : o.guard = none) (s x : Operand)
    (ho : o.op = .call { callee := .builtin .append, args := #[s, x], argTypes := #[t, t] })
    (base : Nat) (v : Value) (n : Nat) (xl : List UInt8) (hs : a.eval s = v) (hown : w.ownsRow base e 1 v n (xl.map bv))
    (A : Option Addr) (m c : Nat) (nl : List UInt8) (hx : a.eval x = .slice A m c) (hm : m = nl.length) (hr : RB w A nl) (hbytes : n + m ≤ 140737488355328) (hbase : base ≤ w.heap.size)
    (h : ∀ v' w', w'.ownsRow base e 1 v' (n + m) ((xl ++ nl).map bv) → w.grownBy w' v.ownBlock → (v'.ownBlock = v.ownBlock ∨ v'.ownBlock = some w.heap.size) → wpList P ops Q rest (a.put o.dst v') w') : wpList P ops Q (o :: rest) a w :=
  wpList_plain hgd fun _ hK => wp_append_bytes ht hinfo s x ho base v n xl hs hown A m c nl hx hm hr hbytes hbase fun v' w' h1 h2 h3 => hK _ _ (h v' w' h1 h2 h3)

/-- '[]byte{}'. -/
theorem owns_new {w : World} {base : Nat} (e : TypeId) (hb : base ≤ w.heap.size) : (w.alloc (.cells #[] e)).ownsRow base e 1 (.slice (some ⟨w.heap.size, 0, none⟩) 0 0) 0 (([] : List UInt8).map bv) :=
  World.ownsRow_made w #[] 0 hb (by simp [maxLen]) (by simp)

theorem RB.new1 (w : World) (x : UInt8) (e : TypeId) : RB (w.alloc (.cells #[.int .u8 (x.toNat : Int)] e)) (some ⟨w.heap.size, 0, none⟩) [x] := RB.one (by simp)

/-- Where a slice cut at k leads. -/
def slA (A : Option Addr) (c k : Nat) : Option Addr := if c = k then A else A.map (·.add k)
theorem slA_some (b o c k : Nat) (h : k < c) : slA (some ⟨b, o, none⟩) c k = some ⟨b, o + k, none⟩ := by
  unfold slA
  rw [if_neg (by omega)]
  simp [add_off]
theorem RB.drop {w : World} {A : Option Addr} {l : List UInt8} (h : RB w A l) {c : Nat} (hc : l.length ≤ c) (k : Nat) : RB w (slA A c k) (l.drop k) := by
  by_cases hk : l.length ≤ k
  · rw [List.drop_eq_nil_of_le hk]
    exact .inl rfl
  · obtain ⟨b, o, rfl⟩ := h.addr (by omega)
    rw [slA_some b o c k (by omega)]
    refine .inr ⟨b, o + k, rfl, fun i hi => ?_⟩
    have hi' : k + i < l.length := by simp at hi; omega
    rw [Nat.add_assoc, h.at hi', List.getElem_drop]
theorem run_slice_from {P : Program} {t e : TypeId} (ht : P.underlying t = some (.slice e)) {i : TypeInfo} (hi : P.info? e = some i) (h1 : i.size = 1) (A : Option Addr) (n c k : Nat) (kk : IntKind) (hk : k ≤ n) (W : World) :
    (Instr.slice t (.slice A n c) (some (.int kk (k : Int))) none none).run P W = .ok (.slice (slA A c k) (n - k) (c - k)) W := by
  have hs : (sizeOf e).run P W = .ok i.size W := by simp [sizeOf, typeInfo, hi]
  have ht' : P.underlying t = some (.slice (P.elem t)) := by simp [Program.elem, ht]
  have he : P.elem t = e := by simp [Program.elem, ht]
  rw [run_slice_l W t A n c ht' kk (k : Int) (by omega) (by omega), he, hs, h1]
  simp [sliced, slA]
theorem run_slice_mid {P : Program} {t e : TypeId} (ht : P.underlying t = some (.slice e)) {i : TypeInfo} (hi : P.info? e = some i) (h1 : i.size = 1) (A : Option Addr) (n c k h : Nat) (kk kh : IntKind) (hk : k ≤ h) (hh : h ≤ c) (W : World) :
    (Instr.slice t (.slice A n c) (some (.int kk (k : Int))) (some (.int kh (h : Int))) none).run P W = .ok (.slice (slA A c k) (h - k) (c - k)) W := by
  have hs : (sizeOf e).run P W = .ok i.size W := by simp [sizeOf, typeInfo, hi]
  have ht' : P.underlying t = some (.slice (P.elem t)) := by simp [Program.elem, ht]
  have he : P.elem t = e := by simp [Program.elem, ht]
  rw [run_slice_lh W t A n c ht' kk kh (k : Int) (h : Int) (by omega) (by omega) (by omega), he, hs, h1]
  simp [sliced, slA]

theorem RB.of_row {w : World} {g : Nat} {l : List UInt8} {T : TypeId} {fr : Nat × Nat} (h : w.heap[g]? = some (.cells (l.map bv).toArray T fr)) : RB w (some ⟨g, 0, none⟩) l :=
  .inr ⟨g, 0, rfl, fun i hi => by
    rw [cell_of_row w g (0 + i) _ _ _ h]
    simp [bv, hi]⟩
end Go.Proofs.YtbpebngjpecncaaGreatDoor
