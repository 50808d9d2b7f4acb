/-
  Readers at a place: the contracts of ReadAt of the reader of bytes, of NewSectionReader, of readDataAt.
-/
import Derived.Test.YtmgmmdhaklokjaaDoorRdr
import Derived.Test.YtmgmmdhaklokjaaDoorStep
import Derived.Test.YtmgmmdhaklokjaaDoorGen
namespace Go.Proofs.YtmgmmdhaklokjaaDoor
set_option linter.unusedVariables false
set_option linter.unusedSimpArgs false
open Go Go.RowKit
attribute [local go_sem ↓] Go.wp_at_zero Go.wp_at_succ

/-- A copy of bytes into a row. -/
theorem wpList_copy_bytes {P : Program} {ops : Array Oper} {rest : List Oper} {o : Oper} {a : Act} {w : World} {Q : Exit → Act → World → Prop} (hgd : o.guard = none) (d s : Operand) (dT sT : TypeId)
    (ho : o.op = .call { callee := .builtin .copy, args := #[d, s], argTypes := #[dT, sT] }) (elem : TypeId) (hu : P.underlying dT = some (.slice elem)) (hsz : (P.info? elem).map (·.size) = some 1)
    (g off dLen dCap : Nat) (A : Option Addr) (sLen sCap : Nat) (hd : a.eval d = .slice (some ⟨g, off, none⟩) dLen dCap) (hs : a.eval s = .slice A sLen sCap)
    (cur : List Value) (t : TypeId) (hg : Hid (w.heap[g]? = some (.cells cur.toArray t (0, 0)))) (l : List UInt8) (hl : l.length = sLen) (hr : RB w A l) (h0 : 0 < Nat.min sLen dLen)
    (hfit : off + Nat.min sLen dLen ≤ cur.length)
    (h : ∀ w', Hid (w'.heap[g]? = some (.cells (splice cur off ((l.take dLen).map bv)).toArray t (0, 0))) → Chg (· = g) w w' → w'.heap.size = w.heap.size → wpList P ops Q rest (a.put o.dst (.int .i64 (Nat.min sLen dLen : Nat))) w') :
    wpList P ops Q (o :: rest) a w :=
  wpList_plain hgd fun K hK => by
    have hw : Region.wanted o (yielded ops a.tmps) = true := by simp [Region.wanted, hgd]
    have h2 := step_copy_bytes (P := P) (ops := ops) (o := o) (a := a) (w := w) (K := K) (Q := Q) (E := True) hgd d s dT sT ho elem hu hsz g off dLen dCap A sLen sCap hd hs cur t hg l hl hr h0 hfit (fun w' h1 h2 h3 => hK _ _ (h w' h1 h2 h3))
    rwa [if_pos hw] at h2
/-- A copy of nothing. -/
theorem run_copy_zero {P : Program} (w : World) (dT sT ty elem : TypeId) (a : Addr) (dCap : Nat) (B : Option Addr) (sLen sCap : Nat) (hu : P.underlying dT = some (.slice elem)) (hs : ((P.info? elem).map (·.size)).isSome = true) :
    (Builtin.copy_ #[dT, sT] ty #[.slice (some a) 0 dCap, .slice B sLen sCap]).run P w = .ok (.int .i64 0) w := by
  cases hq : P.info? elem with
  | none => simp [hq] at hs
  | some i => cases B <;> simp [Builtin.copy_, run_underlying hu, Builtin.lenOf, Builtin.firstCells, sizeOf, typeInfo, hq, storeCells, loadCells, loadCellsFrom, goInt]

/-- A reader at a place: its bytes; it and these lie in blocks of D. -/
def AtB (w : World) (D : Nat → Prop) (M : Nat) (l : List UInt8) : Prop :=
  ∃ A n c i pv, n = l.length ∧ n ≤ c ∧ n ≤ 2147483647 ∧ 3 ≤ M ∧ D M ∧ (∀ k, D k → k < w.heap.size) ∧ w.heap[M]? = some (.cells #[.slice A n c, i, pv] 125 (0, 0)) ∧ RB w A l ∧ ∀ a, A = some a → D a.block
theorem AtB.chg {D S : Nat → Prop} {w w' : World} {M : Nat} {l : List UInt8} (h : AtB w D M l) (hc : Chg S w w') (hS : ∀ k, D k → ¬ S k) : AtB w' D M l := by
  obtain ⟨A, n, c, i, pv, h1, h2, h3, h4, h4', hB, h5, h6, h7⟩ := h
  exact ⟨A, n, c, i, pv, h1, h2, h3, h4, h4', fun k hk => Nat.lt_of_lt_of_le (hB k hk) hc.size, hc.row h5 (hS M h4'), h6.chg hc (fun a ha => hS _ (h7 a ha)), h7⟩
theorem AtB.later {D : Nat → Prop} {w w' : World} {M : Nat} {l : List UInt8} (h : AtB w D M l) (hb : Below w.heap.size w w') : AtB w' D M l := by
  have hB : ∀ k, D k → k < w.heap.size := by
    obtain ⟨A, n, c, i, pv, h1, h2, h3, h4, h4', hB, _⟩ := h
    exact hB
  exact h.chg (Chg.of_below (S := fun k => w.heap.size ≤ k) hb (fun _ _ h => h)) (fun k hk => Nat.not_le.2 (hB k hk))
theorem AtB.lt {D : Nat → Prop} {w : World} {M : Nat} {l : List UInt8} (h : AtB w D M l) : ∀ k, D k → k < w.heap.size := by
  obtain ⟨A, n, c, i, pv, h1, h2, h3, h4, h4', hB, _⟩ := h
  exact hB

/-- What a reader at a place does with m bytes from a place on: all of them, or an error. -/
def AtPost (E : Value) (l : List UInt8) (off m g : Nat) (w : World) (e : Ending) (w' : World) : Prop :=
  Chg (· = g) w w' ∧ w'.heap.size = w.heap.size ∧
  ((off + m ≤ l.length ∧ 0 < m ∧ e = .returned (.tuple #[.int .i64 m, .nilIface]) ∧ Hid (w'.heap[g]? = some (.cells (((l.drop off).take m).map bv).toArray 5 (0, 0)))) ∨
   (m = 0 ∧ Hid (w'.heap[g]? = w.heap[g]?) ∧ (e = .returned (.tuple #[.int .i64 0, .nilIface]) ∨ e = .returned (.tuple #[.int .i64 0, E]))) ∨
   (l.length < off + m ∧ 0 < m ∧ ∃ x, e = .returned (.tuple #[x, E])))

set_option maxRecDepth 100000 in
set_option maxHeartbeats 1000000 in
theorem bytesReadAt (M : Nat) (D : Nat → Prop) (g off m : Nat) (l : List UInt8) (cur : List Value) (w : World) (TE TU : TypeId) (vE vU : Value) (hErr : Hid (ErrsAt w TE TU vE vU)) (hM : Hid (AtB w D M l)) (hoff : off ≤ 4294967295) (hm : m ≤ 2147483647)
    (hg : Hid (w.heap[g]? = some (.cells cur.toArray 5 (0, 0)))) (hfit : Hid (m = cur.length)) (hg3 : 3 ≤ g) :
    Calls Tryd.prog 70 #[.pointer (some ⟨M, 0, none⟩), .slice (some ⟨g, 0, none⟩) m m, .int .i64 off] w (AtPost (.iface TE vE) l off m g w) := by
  obtain ⟨A, n, c, i, pv, hn, hc, hb, h3, hMD, hDs, hrow, hRB, hlt⟩ := hM.out
  replace hDs := Lib.hid hDs
  replace hMD := Lib.hid hMD
  have c0 := World.cell?_of_row (l := [.slice A n c, i, pv]) hrow 0 _ rfl
  have cE := hErr.out.1
  have hglt : g < w.heap.size := (Array.getElem?_eq_some_iff.1 hg.out).1
  replace hRB := Lib.hid hRB
  replace hlt := Lib.hid hlt
  replace hn := Lib.hid hn
  clear hErr hrow
  by_cases ho : n ≤ off
  · have hp : Hid (∀ q, AtPost (.iface TE vE) l off m g w (.returned (.tuple #[.int .i64 0, .iface TE vE])) (w.drewN q)) := Lib.hid (fun q => ⟨(Chg.refl _ w).drewN q, rfl, by
      by_cases h0 : m = 0
      · exact .inr (.inl ⟨h0, Lib.hid rfl, .inr rfl⟩)
      · exact .inr (.inr ⟨by have := hn.out; omega, by omega, _, rfl⟩)⟩)
    have h1 : (n : Int) ≤ (off : Int) := by omega
    go_enter Tryd.func70, Tryd.ntmps70
    go_wp2
    go_quiet (fail)
    go_wp2
    go_ret2
    exact hp.out _
  · have hsl := fun W => run_slice_from (P := Tryd.prog) Tryd.underlying23 (info_parts Tryd.infoByte).choose_spec.1 (info_parts Tryd.infoByte).choose_spec.2.2.1 A n c off .i64 (by omega) W
    have hrd : Hid (RB w (slA A c off) (l.drop off)) := Lib.hid (hRB.out.drop (by rw [← hn.out]; exact hc) off)
    have hlen : Hid ((l.drop off).length = n - off) := Lib.hid (by rw [List.length_drop, ← hn.out])
    have h1 : ¬ (n : Int) ≤ (off : Int) := by omega
    have ho0 : (0 : Int) ≤ (off : Int) := by omega
    have ho1 : (off : Int) ≤ (n : Int) := by omega
    by_cases h0 : m = 0
    · subst h0
      have hp : Hid (AtPost (.iface TE vE) l off 0 g w (.returned (.tuple #[.int .i64 0, .nilIface])) w) := Lib.hid ⟨Chg.refl _ w, rfl, .inr (.inl ⟨rfl, Lib.hid rfl, .inl rfl⟩)⟩
      have hcz : ∀ W, (Builtin.copy_ #[23, 23] 3 #[.slice (some ⟨g, 0, none⟩) 0 0, .slice (slA A c off) (n - off) (c - off)]).run Tryd.prog W = .ok (.int .i64 0) W := fun W => run_copy_zero W _ _ _ 5 _ _ _ _ _ Tryd.underlying23 (by kernel_rfl)
      go_enter Tryd.func70, Tryd.ntmps70
      go_wp2
      go_ret2
      exact hp.out
    · have hmin0 : 0 < Nat.min (n - off) m := Nat.lt_min.2 ⟨by omega, by omega⟩
      have hminle : Nat.min (n - off) m ≤ m := Nat.min_le_right _ _
      go_enter Tryd.func70, Tryd.ntmps70
      have hfit' : 0 + Nat.min (n - off) m ≤ cur.length := by have := hfit.out; omega
      go_wp2_with (refine wpList_copy_bytes rfl (.tmp 19) (.tmp 25) 23 23 rfl 5 Tryd.underlying23 Tryd.sizeByte g 0 m m (slA A c off) (n - off) (c - off) rfl rfl cur 5 hg (l.drop off) hlen.out hrd.out hmin0 hfit' ?_)
      intro w2 hg2 hC2 hs2
      have hmn : Hid (Nat.min (n - off) m = if off + m ≤ n then m else n - off) := Lib.hid (by
        by_cases h : off + m ≤ n
        · rw [if_pos h]; exact Nat.min_eq_right (by omega)
        · rw [if_neg h]; exact Nat.min_eq_left (by omega))
      have hw1 : w2.cell? ⟨1, 0, none⟩ = some (.iface TE vE) := (hC2.cell (p := ⟨1, 0, none⟩) (World.block_lt_of_cell? w _ cE) (by simp only; omega)).trans cE
      by_cases h : off + m ≤ n
      · have hp : Hid (AtPost (.iface TE vE) l off m g w (.returned (.tuple #[.int .i64 m, .nilIface])) w2) := Lib.hid ⟨hC2, hs2, .inl ⟨by have := hn.out; omega, by omega, rfl, Lib.hid (by
          have hl2 : (((l.drop off).take m).map bv).length = cur.length := by have := hn.out; have := hfit.out; simp; omega
          rw [← splice_all _ _ hl2]
          simpa [List.map_take, List.map_drop] using hg2.out)⟩⟩
        have hmm := hmn.out
        rw [if_pos h] at hmm
        rw [hmm]
        clear hmm hmn hC2 hs2 hg2
        go_wp2
        go_ret2
        exact hp.out
      · have hp : Hid (∀ x q, AtPost (.iface TE vE) l off m g w (.returned (.tuple #[x, .iface TE vE])) (w2.drewN q)) := Lib.hid (fun x q => ⟨hC2.drewN q, hs2, .inr (.inr ⟨by have := hn.out; omega, by omega, _, rfl⟩)⟩)
        have hmm := hmn.out
        rw [if_neg h] at hmm
        rw [hmm]
        have hlt2 : ((n - off : Nat) : Int) < (m : Int) := by omega
        clear hmm hmn hC2 hs2 hg2
        go_wp2
        go_ret2
        exact hp.out _ 0

theorem neq_of_eql {P : Program} {t A B : TypeId} {a b : Value} {r : Bool} {W : World} (h : (binOp .eql t (.iface A a) (.iface B b)).run P W = .ok (.bool r) W) : (binOp .neq t (.iface A a) (.iface B b)).run P W = .ok (.bool (!r)) W := by
  simp only [binOp, Sem.run_bind] at h ⊢
  cases hq : (Op.equal t (.iface A a) (.iface B b)).run P W with
  | ok x W2 =>
    rw [hq] at h
    simp only [Result.andThen_ok, Sem.run_pure, Result.ok.injEq, Value.bool.injEq] at h ⊢
    exact ⟨by rw [h.1], h.2⟩
  | _ => rw [hq] at h; simp [Result.andThen] at h

/-- A new slice of noughts, its length of whatever kind. -/
theorem makeBytesK (k : IntKind) (Z : Nat) (hZ : Z ≤ 2147483647) : ∃ cur : List Value, Hid (Z = cur.length) ∧ ∀ w, (Instr.makeSlice 23 (.int k (Z : Int)) (.int k (Z : Int))).run Tryd.prog w = .ok (.slice (some ⟨w.heap.size, 0, none⟩) Z Z) (w.alloc (.cells cur.toArray 5)) := by
  obtain ⟨i0, hi, hz0, hz1, hz2⟩ := info_parts Tryd.infoByte
  refine ⟨(madeCells (Value.cells (.int .u8 0)) (Z * i0.size)).toList, Lib.hid (by rw [Array.length_toList, size_madeCells, hz1]; omega), fun w => ?_⟩
  have hr := run_make (P := Tryd.prog) w 23 5 i0 (.int .u8 0) Tryd.underlying23 hi hz0 k k Z Z (by omega) (by omega) (by rw [hz2]; omega) (by omega)
  simpa using hr

/-- What readDataAt gives back: the bytes, or an error. -/
def DataPost (l : List UInt8) (off n : Nat) (w : World) (e : Ending) (w' : World) : Prop :=
  Below w.heap.size w w' ∧
  (((off + n ≤ l.length ∨ n = 0) ∧ ∃ v, e = .returned (.tuple #[v, .nilIface]) ∧ Hid (w'.ownsRow w.heap.size 5 1 v n (((l.drop off).take n).map bv))) ∨
   (l.length < off + n ∧ 0 < n ∧ ∃ T x, e = .returned (.tuple #[.slice none 0 0, .iface T x])))

theorem owns_of_row {w : World} {base g n : Nat} {T : TypeId} {cs : List Value} (hg : w.heap[g]? = some (.cells cs.toArray T (0, 0))) (hb : base ≤ g) (hn : cs.length = n) (hm : n ≤ maxLen) : w.ownsRow base T 1 (.slice (some ⟨g, 0, none⟩) n n) n cs :=
  ⟨by omega, .inr ⟨g, n, cs.toArray, rfl, hb, hg, Nat.le_refl _, hm, by simp; omega, by show List.take _ cs = cs; rw [Nat.mul_one]; exact List.take_of_length_le (by omega)⟩⟩

theorem nilReadAt (f : Nat) (a : Addr) (w : World) : (nilAhead (f + 1) 105 (.pointer (some a)) "ReadAt").run Tryd.prog w = .ok (some false) w := by kernel_rfl
theorem methodReadAt (f : Nat) (a : Addr) (w : World) : (method (f + 1) 105 (.pointer (some a)) "ReadAt").run Tryd.prog w = .ok (70, .pointer (some a)) w := by kernel_rfl

set_option maxRecDepth 100000 in
set_option maxHeartbeats 1000000 in
/-- readDataAt of a reader of bytes. -/
theorem readDataAt_any (M : Nat) (D : Nat → Prop) (l : List UInt8) (off n : Nat) (w : World) (TE TU : TypeId) (vE vU : Value) (hErr : Hid (ErrsAt w TE TU vE vU)) (h3 : 3 ≤ w.heap.size) (hn : n ≤ 1048576) (hoff : off ≤ 4294967295) (hM : Hid (AtB w D M l)) :
    Calls Tryd.prog 36 #[.iface 105 (.pointer (some ⟨M, 0, none⟩)), .int .u64 n, .int .i64 off] w (DataPost l off n w) := by
  obtain ⟨cur, hlen, hmk⟩ := makeBytesK .u64 n (by omega)
  have hn1 : ∀ w, (nilAhead 277 105 (.pointer (some ⟨M, 0, none⟩)) "ReadAt").run Tryd.prog w = .ok (some false) w := fun w => nilReadAt _ ⟨M, 0, none⟩ w
  have hm1 : ∀ w, (method 277 105 (.pointer (some ⟨M, 0, none⟩)) "ReadAt").run Tryd.prog w = .ok (70, .pointer (some ⟨M, 0, none⟩)) w := fun w => methodReadAt _ ⟨M, 0, none⟩ w
  have hne := fun W => neq_of_eql (hErr.out.2.2 W)
  simp only [Bool.not_true] at hne
  have q1 : IntKind.i64.wrap (n : Int) = (n : Int) := IntWalk.i64_in _ (by omega)
  have q2 : IntKind.u64.wrap (n : Int) = (n : Int) := IntWalk.u64_in _ (by omega)
  have h1 : (n : Int) < 10485760 := by omega
  have h0 : ¬ (n : Int) < 0 := by omega
  have g0 := Lib.hid (heap_alloc_new w (.cells cur.toArray 5))
  have b0 : Below w.heap.size w (w.alloc (.cells cur.toArray 5)) := (Below.refl _ _).alloc (Nat.le_refl _) _
  have E0 := Lib.hid (hErr.out.chg (Chg.of_below (S := fun k => w.heap.size ≤ k) b0 (fun k _ h => h)) (by omega) (by omega))
  have cE0 := E0.out.1
  have CALL := Lib.hid (bytesReadAt M D w.heap.size off n l cur _ TE TU vE vU E0 (Lib.hid (hM.out.later b0)) hoff (by omega) g0 hlen h3)
  replace b0 := Lib.hid b0
  go_enter Tryd.func36, Tryd.ntmps36
  go_wp2_with fail
  refine CALL.out.mono ?_
  rintro e w2 ⟨hC, hs, hp⟩
  have b2 := Lib.hid (b0.out.trans (hC.below (B := w.heap.size) (by simp) (fun k hk e => by omega)))
  have cE2 : w2.cell? ⟨1, 0, none⟩ = some (.iface TE vE) := (hC.cell (p := ⟨1, 0, none⟩) (World.block_lt_of_cell? _ _ cE0) (by simp only; omega)).trans cE0
  rcases hp with ⟨hle, hn0, rfl, hrow⟩ | ⟨hn0, hsame, rfl | rfl⟩ | ⟨hlt, hn0, x, rfl⟩
  · have hown := owns_of_row (base := w.heap.size) (n := n) hrow.out (Nat.le_refl _) (by simp; omega) (by simp only [maxLen]; omega)
    have hfin : Hid (DataPost l off n w (.returned (.tuple #[.slice (some ⟨w.heap.size, 0, none⟩) n n, .nilIface])) w2) := Lib.hid ⟨b2.out, .inl ⟨.inl hle, _, rfl, Lib.hid hown⟩⟩
    clear hown hC hs hrow hle
    go_wp2
    go_ret2
    exact hfin.out
  · subst hn0
    have hcur : cur = [] := List.eq_nil_of_length_eq_zero hlen.out.symm
    have hrow : w2.heap[w.heap.size]? = some (.cells ([] : List Value).toArray 5 (0, 0)) := by
      rw [hsame.out, g0.out, hcur]
    have hown := owns_of_row (base := w.heap.size) (n := 0) hrow (Nat.le_refl _) rfl (by simp [maxLen])
    have hfin : Hid (DataPost l off 0 w (.returned (.tuple #[.slice (some ⟨w.heap.size, 0, none⟩) 0 0, .nilIface])) w2) := Lib.hid ⟨b2.out, .inl ⟨.inr rfl, _, rfl, Lib.hid (by simpa using hown)⟩⟩
    clear hown hC hs hrow hcur hsame
    go_wp2
    go_ret2
    exact hfin.out
  · subst hn0
    have hcur : cur = [] := List.eq_nil_of_length_eq_zero hlen.out.symm
    have hrow : w2.heap[w.heap.size]? = some (.cells ([] : List Value).toArray 5 (0, 0)) := by
      rw [hsame.out, g0.out, hcur]
    have hown := owns_of_row (base := w.heap.size) (n := 0) hrow (Nat.le_refl _) rfl (by simp [maxLen])
    have hfin : Hid (DataPost l off 0 w (.returned (.tuple #[.slice (some ⟨w.heap.size, 0, none⟩) 0 0, .nilIface])) w2) := Lib.hid ⟨b2.out, .inl ⟨.inr rfl, _, rfl, Lib.hid (by simpa using hown)⟩⟩
    clear hown hC hs hrow hcur hsame
    go_wp2
    go_ret2
    exact hfin.out
  · have hfin : Hid (∀ w3, Below w.heap.size w w3 → DataPost l off n w (.returned (.tuple #[.slice none 0 0, .iface TE vE])) w3) := Lib.hid (fun w3 h => ⟨h, .inr ⟨hlt, hn0, _, _, rfl⟩⟩)
    have h2 : (0 : Int) < (n : Int) := by omega
    clear hC hs hlt
    go_wp2
    go_ret2
    exact hfin.out _ b2.out

set_option maxHeartbeats 1000000 in
/-- A part of a reader at a place. -/
theorem newSection (TR : TypeId) (p : Addr) (off n : Nat) (hoff : off ≤ 4294967295) (hn : n ≤ 4294967295) (w : World) :
    Calls Tryd.prog 35 #[.iface TR (.pointer (some p)), .int .i64 off, .int .i64 n] w fun e w' => e = .returned (.pointer (some ⟨w.heap.size, 0, none⟩)) ∧ w.alloc (.cells #[.iface TR (.pointer (some p)), .int .i64 off, .int .i64 off, .int .i64 ((n : Int) + (off : Int)), .int .i64 n] 138) = w' := by
  have q1 : IntKind.i64.wrap (9223372036854775807 - (n : Int)) = 9223372036854775807 - (n : Int) := IntWalk.i64_in _ (by omega)
  have q2 : IntKind.i64.wrap ((n : Int) + (off : Int)) = (n : Int) + (off : Int) := IntWalk.i64_in _ (by omega)
  have h1 : (off : Int) ≤ 9223372036854775807 - (n : Int) := by omega
  go_enter Tryd.func35, Tryd.ntmps35
  go_wp2
  go_ret
  exact ⟨rfl, rfl⟩

theorem readDataAt_ok (M : Nat) (D : Nat → Prop) (l : List UInt8) (off n : Nat) (w : World) (TE TU : TypeId) (vE vU : Value) (hErr : Hid (ErrsAt w TE TU vE vU)) (h3 : 3 ≤ w.heap.size) (hn : n ≤ 1048576) (hoff : off ≤ 4294967295) (hM : Hid (AtB w D M l)) (hok : off + n ≤ l.length ∨ n = 0) :
    Calls Tryd.prog 36 #[.iface 105 (.pointer (some ⟨M, 0, none⟩)), .int .u64 n, .int .i64 off] w fun e w' => (∃ v, e = .returned (.tuple #[v, .nilIface]) ∧ Hid (w'.ownsRow w.heap.size 5 1 v n (((l.drop off).take n).map bv))) ∧ Below w.heap.size w w' :=
  (readDataAt_any M D l off n w TE TU vE vU hErr h3 hn hoff hM).mono fun e w' h => by
    rcases h with ⟨hb, ⟨-, h⟩ | ⟨h1, h2, -⟩⟩
    · exact ⟨h, hb⟩
    · omega
theorem readDataAt_bad (M : Nat) (D : Nat → Prop) (l : List UInt8) (off n : Nat) (w : World) (TE TU : TypeId) (vE vU : Value) (hErr : Hid (ErrsAt w TE TU vE vU)) (h3 : 3 ≤ w.heap.size) (hn : n ≤ 1048576) (hoff : off ≤ 4294967295) (hM : Hid (AtB w D M l)) (hbad : l.length < off + n) (h0 : 0 < n) :
    Calls Tryd.prog 36 #[.iface 105 (.pointer (some ⟨M, 0, none⟩)), .int .u64 n, .int .i64 off] w fun e w' => (∃ T x, e = .returned (.tuple #[.slice none 0 0, .iface T x])) ∧ Below w.heap.size w w' :=
  (readDataAt_any M D l off n w TE TU vE vU hErr h3 hn hoff hM).mono fun e w' h => by
    rcases h with ⟨hb, ⟨h1, -⟩ | ⟨-, -, h⟩⟩
    · omega
    · exact ⟨h, hb⟩
end Go.Proofs.YtmgmmdhaklokjaaDoor
