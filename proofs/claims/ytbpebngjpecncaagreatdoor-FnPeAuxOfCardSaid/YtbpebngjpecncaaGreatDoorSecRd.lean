/-
  Reading full from a section that is the whole of a reader of bytes; reading full from whatever reader.
-/
import Derived.Test.YtbpebngjpecncaaGreatDoorRdrP
namespace Go.Proofs.YtbpebngjpecncaaGreatDoor
set_option linter.unusedVariables false
set_option linter.unusedSimpArgs false
set_option maxRecDepth 100000
open Go Go.RowKit
attribute [local go_sem ↓] Go.wp_at_zero Go.wp_at_succ

/-- A copy of bytes into a row. -/
theorem wpList_copy_bytes {P : Program} {ops : Array Oper} {rest : List Oper} {o : Oper} {a : Act} {w : World} {Q : Exit → Act → World → Prop} (hgd : o.guard = none) (d s : Operand) (dT sT : TypeId)
    (ho : o.op = .call { callee := .builtin .copy, args := #[d, s], argTypes := #[dT, sT] }) (elem : TypeId) (hu : P.underlying dT = some (.slice elem)) (hsz : (P.info? elem).map (·.size) = some 1)
    (g off dLen dCap : Nat) (A : Option Addr) (sLen sCap : Nat) (hd : a.eval d = .slice (some ⟨g, off, none⟩) dLen dCap) (hs : a.eval s = .slice A sLen sCap)
    (cur : List Value) (t : TypeId) (hg : Hid (w.heap[g]? = some (.cells cur.toArray t (0, 0)))) (l : List UInt8) (hl : l.length = sLen) (hr : RB w A l) (h0 : 0 < Nat.min sLen dLen)
    (hfit : off + Nat.min sLen dLen ≤ cur.length)
    (h : ∀ w', Hid (w'.heap[g]? = some (.cells (splice cur off ((l.take dLen).map bv)).toArray t (0, 0))) → Chg (· = g) w w' → w'.heap.size = w.heap.size → wpList P ops Q rest (a.put o.dst (.int .i64 (Nat.min sLen dLen : Nat))) w') :
    wpList P ops Q (o :: rest) a w :=
  wpList_plain hgd fun K hK => by
    have hw : Region.wanted o (yielded ops a.tmps) = true := by simp [Region.wanted, hgd]
    have h2 := step_copy_bytes (P := P) (ops := ops) (o := o) (a := a) (w := w) (K := K) (Q := Q) (E := True) hgd d s dT sT ho elem hu hsz g off dLen dCap A sLen sCap hd hs cur t hg l hl hr h0 hfit (fun w' h1 h2 h3 => hK _ _ (h w' h1 h2 h3))
    rwa [if_pos hw] at h2

set_option maxHeartbeats 1000000 in
/-- The reader of bytes hands out so many bytes from a place on. -/
theorem bytesReadAt_all (R g off m mc : Nat) (A : Option Addr) (l : List UInt8) (n c : Nat) (i pv : Value) (T : TypeId) (cur : List Value) (w : World)
    (hN : Hid (n = l.length)) (hb : n ≤ 2147483647) (hoff : off + m ≤ n) (hm : 0 < m) (hnc : n ≤ c)
    (hR : Hid (w.heap[R]? = some (.cells #[.slice A n c, i, pv] 141 (0, 0)))) (hA : Hid (RB w A l)) (hg : Hid (w.heap[g]? = some (.cells cur.toArray T (0, 0)))) (hfit : Hid (m = cur.length)) :
    Calls Tryz.prog 108 #[.pointer (some ⟨R, 0, none⟩), .slice (some ⟨g, 0, none⟩) m mc, .int .i64 off] w fun e w' => e = .returned (.tuple #[.int .i64 m, .nilIface]) ∧
      Hid (w'.heap[g]? = some (.cells (((l.drop off).take m).map bv).toArray T (0, 0))) ∧ Chg (· = g) w w' ∧ w'.heap.size = w.heap.size := by
  have c0 := World.cell?_of_row (l := [.slice A n c, i, pv]) hR.out 0 _ rfl
  have hsl := fun W => run_slice_from (P := Tryz.prog) Tryz.underlying34 (info_parts Tryz.infoByte).choose_spec.1 (info_parts Tryz.infoByte).choose_spec.2.2.1 A n c off .i64 (by omega) W
  have hrd : Hid (RB w (slA A c off) (l.drop off)) := Lib.hid (hA.out.drop (by rw [← hN.out]; exact hnc) off)
  have hlen : Hid ((l.drop off).length = n - off) := Lib.hid (by rw [List.length_drop, ← hN.out])
  have h1 : ¬ (n : Int) ≤ (off : Int) := by omega
  have ho0 : (0 : Int) ≤ (off : Int) := by omega
  have ho1 : (off : Int) ≤ (n : Int) := by omega
  have hmin0 : 0 < Nat.min (n - off) m := Nat.lt_min.2 ⟨by omega, by omega⟩
  have hmn : Hid (Nat.min (n - off) m = m) := Lib.hid (Nat.min_eq_right (by omega))
  have hminle : Nat.min (n - off) m ≤ m := Nat.min_le_right _ _
  have hfit' : 0 + Nat.min (n - off) m ≤ cur.length := by have := hfit.out; omega
  clear hR hA
  go_enter Tryz.func108, Tryz.ntmps108
  go_wp2_with (refine wpList_copy_bytes rfl (.tmp 19) (.tmp 25) 34 34 rfl 5 Tryz.underlying34 Tryz.sizeByte g 0 m mc (slA A c off) (n - off) (c - off) rfl rfl cur T hg (l.drop off) hlen.out hrd.out hmin0 hfit' ?_)
  intro w2 hg2 hC2 hs2
  have hmm := hmn.out
  rw [hmm]
  have hp : Hid (w2.heap[g]? = some (.cells (((l.drop off).take m).map bv).toArray T (0, 0))) := Lib.hid (by
    have hl2 : (((l.drop off).take m).map bv).length = cur.length := by have := hN.out; have := hfit.out; simp; omega
    rw [← splice_all _ _ hl2]
    simpa [List.map_take, List.map_drop] using hg2.out)
  replace hs2 := Lib.hid hs2
  replace hC2 := Lib.hid hC2
  clear hmm hmn hg2
  go_wp2
  go_ret2
  exact ⟨rfl, hp, hC2.out, hs2.out⟩

theorem nilReadAt (f : Nat) (a : Addr) (w : World) : (nilAhead (f + 1) 85 (.pointer (some a)) "ReadAt").run Tryz.prog w = .ok (some false) w := by kernel_rfl
theorem methodReadAt (f : Nat) (a : Addr) (w : World) : (method (f + 1) 85 (.pointer (some a)) "ReadAt").run Tryz.prog w = .ok (108, .pointer (some a)) w := by kernel_rfl
theorem nilReadS (f : Nat) (a : Addr) (w : World) : (nilAhead (f + 1) 103 (.pointer (some a)) "Read").run Tryz.prog w = .ok (some false) w := by kernel_rfl
theorem methodReadS (f : Nat) (a : Addr) (w : World) : (method (f + 1) 103 (.pointer (some a)) "Read").run Tryz.prog w = .ok (110, .pointer (some a)) w := by kernel_rfl

set_option maxHeartbeats 2000000 in
/-- The section hands out so many bytes. -/
theorem secRead_all (M R g pos m mc : Nat) (A : Option Addr) (l : List UInt8) (n c : Nat) (i pv : Value) (T : TypeId) (cur : List Value) (w : World)
    (hN : Hid (n = l.length)) (hb : n ≤ 2147483647) (hpos : pos + m ≤ n) (hm : 0 < m) (hnc : n ≤ c) (hgM : g ≠ M)
    (hM : Hid (w.heap[M]? = some (.cells #[.iface 85 (.pointer (some ⟨R, 0, none⟩)), .int .i64 0, .int .i64 (pos : Int), .int .i64 maxL, .int .i64 maxL] 147 (0, 0))))
    (hR : Hid (w.heap[R]? = some (.cells #[.slice A n c, i, pv] 141 (0, 0)))) (hA : Hid (RB w A l)) (hg : Hid (w.heap[g]? = some (.cells cur.toArray T (0, 0)))) (hfit : Hid (m = cur.length)) :
    Calls Tryz.prog 110 #[.pointer (some ⟨M, 0, none⟩), .slice (some ⟨g, 0, none⟩) m mc] w fun e w' => e = .returned (.tuple #[.int .i64 m, .nilIface]) ∧
      Hid (w'.heap[M]? = some (.cells #[.iface 85 (.pointer (some ⟨R, 0, none⟩)), .int .i64 0, .int .i64 ((pos + m : Nat) : Int), .int .i64 maxL, .int .i64 maxL] 147 (0, 0))) ∧
      Hid (w'.heap[g]? = some (.cells (((l.drop pos).take m).map bv).toArray T (0, 0))) ∧ Chg (fun k => k = M ∨ k = g) w w' ∧ w'.heap.size = w.heap.size := by
  have hn1 : ∀ w, (nilAhead 338 85 (.pointer (some ⟨R, 0, none⟩)) "ReadAt").run Tryz.prog w = .ok (some false) w := fun w => nilReadAt _ ⟨R, 0, none⟩ w
  have hm1 : ∀ w, (method 338 85 (.pointer (some ⟨R, 0, none⟩)) "ReadAt").run Tryz.prog w = .ok (108, .pointer (some ⟨R, 0, none⟩)) w := fun w => methodReadAt _ ⟨R, 0, none⟩ w
  have c0 := World.cell?_of_row (l := [.iface 85 (.pointer (some ⟨R, 0, none⟩)), .int .i64 0, .int .i64 (pos : Int), .int .i64 maxL, .int .i64 maxL]) hM.out 0 _ rfl
  have c2 := World.cell?_of_row (l := [.iface 85 (.pointer (some ⟨R, 0, none⟩)), .int .i64 0, .int .i64 (pos : Int), .int .i64 maxL, .int .i64 maxL]) hM.out 2 _ rfl
  have c3 := World.cell?_of_row (l := [.iface 85 (.pointer (some ⟨R, 0, none⟩)), .int .i64 0, .int .i64 (pos : Int), .int .i64 maxL, .int .i64 maxL]) hM.out 3 _ rfl
  have hMlt : M < w.heap.size := (Array.getElem?_eq_some_iff.1 hM.out).1
  have q1 : IntKind.i64.wrap (maxL - (pos : Int)) = maxL - (pos : Int) := IntWalk.i64_in _ (by unfold maxL; omega)
  have q2 : ¬ maxL ≤ (pos : Int) := by unfold maxL; omega
  have q3 : ¬ maxL - (pos : Int) < (m : Int) := by unfold maxL; omega
  have CALL : Hid (∀ q, Calls Tryz.prog 108 #[.pointer (some ⟨R, 0, none⟩), .slice (some ⟨g, 0, none⟩) m mc, .int .i64 pos] (w.drewN q) fun e w' => e = .returned (.tuple #[.int .i64 m, .nilIface]) ∧
      Hid (w'.heap[g]? = some (.cells (((l.drop pos).take m).map bv).toArray T (0, 0))) ∧ Chg (· = g) w w' ∧ w'.heap.size = w.heap.size) := Lib.hid (fun q =>
    (bytesReadAt_all R g pos m mc A l n c i pv T cur (w.drewN q) hN hb hpos hm hnc (by exact hR) (Lib.hid (hA.out.drewN q)) (by exact hg) hfit).mono fun e w' ⟨h1, h2, h3, h4⟩ => ⟨h1, h2, ⟨h3.os, h3.tape, h3.output, h3.size, h3.block⟩, h4⟩)
  have hMrow := Lib.hid hM.out
  clear hR hA hg hfit hN hM
  generalize maxL = L at *
  go_enter Tryz.func110, Tryz.ntmps110
  go_wp2
  go_quiet (fail)
  go_wp2
  go_quiet (fail)
  go_wp2
  go_region_held3 (fun w' => w'.cell? ⟨M, 0, none⟩ = some (.iface 85 (.pointer (some ⟨R, 0, none⟩))) ∧ w'.cell? ⟨M, 2, none⟩ = some (.int .i64 (pos : Int)))
    (first | exact ⟨c0, c2⟩ | go_keep | exact K2.out) (first | (go_at_call 108; refine (CALL.out _).mono ?_; rintro e w2 ⟨rfl, hg2, hC2, hs2⟩; have K2 : Hid (w2.cell? ⟨M, 0, none⟩ = some (.iface 85 (.pointer (some ⟨R, 0, none⟩))) ∧ w2.cell? ⟨M, 2, none⟩ = some (.int .i64 (pos : Int))) := Lib.hid ⟨(hC2.cell (p := ⟨M, 0, none⟩) hMlt (fun e => hgM e.symm)).trans c0, (hC2.cell (p := ⟨M, 2, none⟩) hMlt (fun e => hgM e.symm)).trans c2⟩))
  have M2 := Lib.hid (hC2.row hMrow.out (fun e => hgM e.symm))
  have d2 := K2.out.2
  have f2 := frozen_of_row _ M 2 _ _ M2.out
  have q4 : IntKind.i64.wrap ((pos : Int) + (m : Int)) = (pos : Int) + (m : Int) := IntWalk.i64_in _ (by omega)
  obtain ⟨w3, e3, M3, C3, hs3⟩ := stored 2 (.int .i64 ((pos : Int) + (m : Int))) M2
  replace M3 : Hid (w3.heap[M]? = some (.cells #[.iface 85 (.pointer (some ⟨R, 0, none⟩)), .int .i64 0, .int .i64 ((pos + m : Nat) : Int), .int .i64 L, .int .i64 L] 147 (0, 0))) := Lib.hid (by rw [Int.natCast_add]; exact M3.out)
  replace hs2 := Lib.hid hs2
  have g3 := Lib.hid (C3.out.row hg2.out hgM)
  have C4 := Lib.hid ((hC2.mono (T := fun k => k = M ∨ k = g) (fun k _ e => .inr e)).trans (C3.out.mono (fun k _ e => .inl (.inl e))))
  clear K2 hC2 hg2 c0 c2 c3 M2 C3 CALL hn1 hm1 q1 q2 q3
  go_wp2
  rw [← e3]
  go_ret2
  exact ⟨rfl, M3, g3, C4.out, hs3.out.trans hs2.out⟩

/-- The rows of such a section and of its reader. -/
abbrev secRow (R : Nat) (pos : Nat) : List Value := [.iface 85 (.pointer (some ⟨R, 0, none⟩)), .int .i64 0, .int .i64 (pos : Int), .int .i64 maxL, .int .i64 maxL]

set_option maxHeartbeats 1000000 in
theorem readAtLeast_sec (M R g pos m : Nat) (A : Option Addr) (l : List UInt8) (n c : Nat) (i pv : Value) (T : TypeId) (cur : List Value) (w : World)
    (hN : Hid (n = l.length)) (hb : n ≤ 2147483647) (hpos : pos + m ≤ n) (hm : 0 < m) (hnc : n ≤ c) (hgM : g ≠ M)
    (hM : Hid (w.heap[M]? = some (.cells (secRow R pos).toArray 147 (0, 0))))
    (hR : Hid (w.heap[R]? = some (.cells #[.slice A n c, i, pv] 141 (0, 0)))) (hA : Hid (RB w A l)) (hg : Hid (w.heap[g]? = some (.cells cur.toArray T (0, 0)))) (hfit : Hid (m = cur.length)) :
    Calls Tryz.prog 57 #[.iface 103 (.pointer (some ⟨M, 0, none⟩)), .slice (some ⟨g, 0, none⟩) m m, .int .i64 m] w fun e w' => e = .returned (.tuple #[.int .i64 m, .nilIface]) ∧
      Hid (w'.heap[M]? = some (.cells (secRow R (pos + m)).toArray 147 (0, 0))) ∧ Hid (w'.heap[g]? = some (.cells (((l.drop pos).take m).map bv).toArray T (0, 0))) ∧
      Chg (fun k => k = M ∨ k = g) w w' ∧ w'.heap.size = w.heap.size := by
  have hn1 : ∀ w, (nilAhead 338 103 (.pointer (some ⟨M, 0, none⟩)) "Read").run Tryz.prog w = .ok (some false) w := fun w => nilReadS _ ⟨M, 0, none⟩ w
  have hm1 : ∀ w, (method 338 103 (.pointer (some ⟨M, 0, none⟩)) "Read").run Tryz.prog w = .ok (110, .pointer (some ⟨M, 0, none⟩)) w := fun w => methodReadS _ ⟨M, 0, none⟩ w
  have CALL : Hid (∀ q, Calls Tryz.prog 110 #[.pointer (some ⟨M, 0, none⟩), .slice (some ⟨g, 0, none⟩) m m] (w.drewN q) fun e w' => e = .returned (.tuple #[.int .i64 m, .nilIface]) ∧
      Hid (w'.heap[M]? = some (.cells (secRow R (pos + m)).toArray 147 (0, 0))) ∧ Hid (w'.heap[g]? = some (.cells (((l.drop pos).take m).map bv).toArray T (0, 0))) ∧ Chg (fun k => k = M ∨ k = g) w w' ∧ w'.heap.size = w.heap.size) := Lib.hid (fun q =>
    (secRead_all M R g pos m m A l n c i pv T cur (w.drewN q) hN hb hpos hm hnc hgM (by exact hM) (by exact hR) (Lib.hid (hA.out.drewN q)) (by exact hg) hfit).mono fun e w' ⟨h0, h1, h2, h3, h4⟩ => ⟨h0, h1, h2, ⟨h3.os, h3.tape, h3.output, h3.size, h3.block⟩, h4⟩)
  have hm' : m ≤ 2147483647 := by omega
  clear hM hR hA hg hfit hN
  go_enter Tryz.func57, Tryz.ntmps57
  go_wp2
  refine wp_loop_rounds 2 ?_
  rw [rounds_succ]
  go_wp2
  go_region_held3 (fun _ => True) (trivial) (first | (go_at_call 110; refine (CALL.out _).mono ?_; rintro e w2 ⟨rfl, hM2, hg2, hc2, hs2⟩))
  replace hs2 := Lib.hid hs2
  go_wp2
  rw [rounds_succ]
  go_wp2
  go_ret2
  exact ⟨rfl, hM2, hg2, hc2, hs2.out⟩

set_option maxHeartbeats 400000 in
theorem readFull_sec (M R g pos m : Nat) (A : Option Addr) (l : List UInt8) (n c : Nat) (i pv : Value) (T : TypeId) (cur : List Value) (w : World)
    (hN : Hid (n = l.length)) (hb : n ≤ 2147483647) (hpos : pos + m ≤ n) (hm : 0 < m) (hnc : n ≤ c) (hgM : g ≠ M)
    (hM : Hid (w.heap[M]? = some (.cells (secRow R pos).toArray 147 (0, 0))))
    (hR : Hid (w.heap[R]? = some (.cells #[.slice A n c, i, pv] 141 (0, 0)))) (hA : Hid (RB w A l)) (hg : Hid (w.heap[g]? = some (.cells cur.toArray T (0, 0)))) (hfit : Hid (m = cur.length)) :
    Calls Tryz.prog 44 #[.iface 103 (.pointer (some ⟨M, 0, none⟩)), .slice (some ⟨g, 0, none⟩) m m] w fun e w' => e = .returned (.tuple #[.int .i64 m, .nilIface]) ∧
      Hid (w'.heap[M]? = some (.cells (secRow R (pos + m)).toArray 147 (0, 0))) ∧ Hid (w'.heap[g]? = some (.cells (((l.drop pos).take m).map bv).toArray T (0, 0))) ∧
      Chg (fun k => k = M ∨ k = g) w w' ∧ w'.heap.size = w.heap.size := by
  have H := Lib.hid (readAtLeast_sec M R g pos m A l n c i pv T cur w hN hb hpos hm hnc hgM hM hR hA hg hfit)
  clear hM hR hA hg hfit hN
  go_enter Tryz.func44, Tryz.ntmps44
  go_wp2_with fail
  refine H.out.mono ?_
  rintro e w2 ⟨rfl, h1, h2, h3, h4⟩
  replace h4 := Lib.hid h4
  go_wp2
  go_ret2
  exact ⟨rfl, h1, h2, h3, h4.out⟩

/-- As many bytes are read as there is room for. -/
theorem rdr_full (rd : Value) (M g : Nat) (D : Nat → Prop) (l : List UInt8) (pos m : Nat) (T : TypeId) (cur : List Value) (w : World)
    (hR : Hid (Rdr w rd M D l pos)) (hpos : Hid (pos + m ≤ l.length)) (hm : 0 < m) (hg : Hid (w.heap[g]? = some (.cells cur.toArray T (0, 0)))) (hfit : Hid (m = cur.length)) (hgD : Hid (¬ D g)) (hgM : g ≠ M) :
    Calls Tryz.prog 44 #[rd, .slice (some ⟨g, 0, none⟩) m m] w fun e w' => e = .returned (.tuple #[.int .i64 m, .nilIface]) ∧
      Hid (Rdr w' rd M D l (pos + m)) ∧ Hid (w'.heap[g]? = some (.cells (((l.drop pos).take m).map bv).toArray T (0, 0))) ∧ Chg (fun k => k = M ∨ k = g) w w' ∧ w'.heap.size = w.heap.size := by
  have hlen := hR.out.len
  have hp := hpos.out
  have hd' := hR.out.d
  rcases hR.out.is with ⟨A, n, c, pv, rfl, hn, hnc, hRow, hA, hd⟩ | ⟨R, A, n, c, i, pv, rfl, hn, hnc, hDR, hM, hRow, hA, hd⟩
  · refine (readFull_all M g A l n c pos m pv 141 T cur w (Lib.hid hn) (by omega) (by omega) hm (by omega) hnc (fun e => hgM e.symm) (Lib.hid hRow) hg hfit hA
      (fun a ha => ⟨(hd' _ (hd a ha)).2, fun e => hgD.out (e ▸ hd a ha)⟩)).mono ?_
    rintro e w' ⟨rfl, h1, h2, h3, h4⟩
    refine ⟨rfl, Lib.hid ⟨hlen, by omega, by rw [h4]; exact hR.out.lt, fun k hk => ⟨by rw [h4]; exact (hd' k hk).1, (hd' k hk).2⟩, .inl ⟨A, n, c, _, rfl, hn, hnc, h1.out, hA.chg h3 (fun a ha e => ?_), hd⟩⟩, h2, h3, h4⟩
    rcases e with e | e
    · exact (hd' _ (hd a ha)).2 e
    · exact hgD.out (e ▸ hd a ha)
  · refine (readFull_sec M R g pos m A l n c i pv T cur w (Lib.hid hn) (by omega) (by omega) hm hnc hgM (Lib.hid hM) (Lib.hid hRow) (Lib.hid hA) hg hfit).mono ?_
    rintro e w' ⟨rfl, h1, h2, h3, h4⟩
    have hne : ∀ k, D k → ¬ (k = M ∨ k = g) := fun k hk e => by
      rcases e with e | e
      · exact (hd' k hk).2 e
      · exact hgD.out (e ▸ hk)
    exact ⟨rfl, Lib.hid ⟨hlen, by omega, by rw [h4]; exact hR.out.lt, fun k hk => ⟨by rw [h4]; exact (hd' k hk).1, (hd' k hk).2⟩, .inr ⟨R, A, n, c, i, pv, rfl, hn, hnc, hDR, h1.out, h3.row hRow (hne R hDR), hA.chg h3 (fun a ha => hne _ (hd a ha)), hd⟩⟩, h2, h3, h4⟩
/-- A cell of the struct is stored: what is known afterwards. -/
theorem storedV {w0 w : World} {x : Value} {V M g o : Nat} {cs : Array Value} {TV : TypeId} {s l : List UInt8} {S : Nat → Prop} {rd : Value} {D : Nat → Prop} {pos : Nat} (q i : Nat) (hV : Hid (w.heap[V]? = some (.cells cs TV (0, 0)))) (hB : Hid (RB w (some ⟨g, o, none⟩) s)) (hC : Chg S w0 w)
    (hR : Hid (Rdr w rd M D l pos)) (hS : S V) (hg : g ≠ V) (hVM : V ≠ M) (hVD : Hid (¬ D V)) :
    ∃ w', w' = (w.drewN q).setCell ⟨V, i, none⟩ x ∧ Hid (w'.heap[V]? = some (.cells (cs.setIfInBounds i x) TV (0, 0))) ∧ Hid (RB w' (some ⟨g, o, none⟩) s) ∧ Chg S w0 w' ∧ Hid (Rdr w' rd M D l pos) := by
  have hc : Chg (· = V) w ((w.drewN q).setCell ⟨V, i, none⟩ x) := ((Chg.refl _ w).drewN q).setCell _ _ (.inl rfl)
  exact ⟨_, rfl, Lib.hid (heap_setCell_same (w.drewN q) V i _ TV _ hV.out), Lib.hid (hB.out.chg hc fun a ha => by cases ha; exact hg), (hC.drewN q).setCell _ _ (.inl hS), Lib.hid (hR.out.chg hc (fun e => hVM e.symm) (fun k hk e => hVD.out (e ▸ hk)))⟩
theorem storedV0 {w0 w : World} {x : Value} {V M g o : Nat} {cs : Array Value} {TV : TypeId} {s l : List UInt8} {S : Nat → Prop} {rd : Value} {D : Nat → Prop} {pos : Nat} (i : Nat) (hV : Hid (w.heap[V]? = some (.cells cs TV (0, 0)))) (hB : Hid (RB w (some ⟨g, o, none⟩) s)) (hC : Chg S w0 w)
    (hR : Hid (Rdr w rd M D l pos)) (hS : S V) (hg : g ≠ V) (hVM : V ≠ M) (hVD : Hid (¬ D V)) :
    ∃ w', w' = w.setCell ⟨V, i, none⟩ x ∧ Hid (w'.heap[V]? = some (.cells (cs.setIfInBounds i x) TV (0, 0))) ∧ Hid (RB w' (some ⟨g, o, none⟩) s) ∧ Chg S w0 w' ∧ Hid (Rdr w' rd M D l pos) := storedV 0 i hV hB hC hR hS hg hVM hVD
/-- The struct's block is written: what is known afterwards. -/
theorem writtenV {w0 w w' : World} {V M g o : Nat} {s l : List UInt8} {S : Nat → Prop} {rd : Value} {D : Nat → Prop} {pos : Nat} (hc : Chg (· = V) w w') (hB : Hid (RB w (some ⟨g, o, none⟩) s)) (hC : Chg S w0 w)
    (hR : Hid (Rdr w rd M D l pos)) (hS : S V) (hg : g ≠ V) (hVM : V ≠ M) (hVD : Hid (¬ D V)) :
    Hid (RB w' (some ⟨g, o, none⟩) s) ∧ Chg S w0 w' ∧ Hid (Rdr w' rd M D l pos) :=
  ⟨Lib.hid (hB.out.chg hc fun a ha => by cases ha; exact hg), hC.trans (hc.mono fun k _ e => .inl (by rw [e]; exact hS)), Lib.hid (hR.out.chg hc (fun e => hVM e.symm) (fun k hk e => hVD.out (e ▸ hk)))⟩
end Go.Proofs.YtbpebngjpecncaaGreatDoor
