/-
  The contracts of the reader of bytes and of the functions that read full, where enough is there.
-/
import Derived.Test.YtbpebngjpecncaaGreatDoorText
import Derived.Deep.RegionLaw
namespace Go.Proofs.YtbpebngjpecncaaGreatDoor
set_option linter.unusedVariables false
set_option linter.unusedSimpArgs false
set_option maxRecDepth 100000
open Go Go.RowKit
attribute [local go_sem ↓] Go.wp_at_zero Go.wp_at_succ

theorem Tryz.sizeByte : (Tryz.prog.info? 5).map (·.size) = some 1 := by kernel_rfl

/-- A copy of bytes into a row, as one step of a region that draws its order. -/
theorem step_copy_bytes {P : Program} {ops : Array Oper} {o : Oper} {a : Act} {w : World} {K : Act → World → Prop} {Q : Exit → Act → World → Prop} {E : Prop} (hgd : o.guard = none) (d s : Operand) (dT sT : TypeId)
    (ho : o.op = .call { callee := .builtin .copy, args := #[d, s], argTypes := #[dT, sT] }) (elem : TypeId) (hu : P.underlying dT = some (.slice elem)) (hsz : (P.info? elem).map (·.size) = some 1)
    (g off dLen dCap : Nat) (A : Option Addr) (sLen sCap : Nat) (hd : a.eval d = .slice (some ⟨g, off, none⟩) dLen dCap) (hs : a.eval s = .slice A sLen sCap)
    (cur : List Value) (t : TypeId) (hg : Hid (w.heap[g]? = some (.cells cur.toArray t (0, 0)))) (l : List UInt8) (hl : l.length = sLen) (hr : RB w A l) (h0 : 0 < Nat.min sLen dLen)
    (hfit : off + Nat.min sLen dLen ≤ cur.length)
    (h : ∀ w', Hid (w'.heap[g]? = some (.cells (splice cur off ((l.take dLen).map bv)).toArray t (0, 0))) → Chg (· = g) w w' → w'.heap.size = w.heap.size → K (a.put o.dst (.int .i64 (Nat.min sLen dLen : Nat))) w') :
    if Region.wanted o (yielded ops a.tmps) = true then Oper.wp P o a w K Q else E := by
  have hw : Region.wanted o (yielded ops a.tmps) = true := by simp [Region.wanted, hgd]
  rw [if_pos hw]
  have hmin : Nat.min sLen dLen ≤ sLen := Nat.min_le_left _ _
  have hlen : ((l.take dLen).map bv).length = Nat.min sLen dLen := by simp [hl, Nat.min_comm]
  obtain ⟨b, o2, rfl⟩ := hr.addr (by omega)
  have hg' : w.heap[g]? = some (.cells cur.toArray t (0, 0)) := hg
  have hrun := run_copy_row (P := P) w dT sT o.type elem g off dLen dCap ⟨b, o2, none⟩ sLen sCap cur.toArray t ((l.take dLen).map bv) hu hsz hg' hlen (fun j v hj => by
      have hrc := (hr.take dLen).rc
      rcases Nat.eq_zero_or_pos (l.take dLen).length with e | e
      · rw [List.eq_nil_of_length_eq_zero e] at hj
        simp at hj
      · obtain ⟨a', ha, hc⟩ := hrc.2 e
        cases ha
        exact hc j v hj) (by rw [hlen]; simpa using hfit) (bv_one _)
  unfold Oper.wp
  simp only [execOp, ho, resolve, invoke, builtin, hd, hs, hrun, Result.andThen, Sem.run_bind, Sem.run_pure, List.map_toArray, List.map_cons, List.map_nil]
  have h2 := h (w.setRow g (cur.take off ++ (l.take dLen).map bv ++ cur.drop (off + ((l.take dLen).map bv).length)).toArray)
    (show _ = _ by rw [setRow_heap w g _ _ t _ hg']; simp [splice]) ⟨rfl, rfl, rfl, by simp, fun k _ hk => setRow_other w g k _ hk⟩ (by simp)
  rw [← hlen] at h2
  simpa [Oper.upon_value, goInt] using h2

set_option maxRecDepth 100000 in
set_option maxHeartbeats 1000000 in
/-- The reader hands out bytes: as many as there are room for. -/
theorem bytesRead_some (R g off : Nat) (A : Option Addr) (l : List UInt8) (n c pos m mc : Nat) (pv : Value) (TR T : TypeId) (cur : List Value) (w : World)
    (hN : Hid (n = l.length)) (hb : n ≤ 2147483647) (hpos : pos < n) (hm : 0 < m) (hm' : m ≤ 2147483647) (hnc : n ≤ c)
    (hRg : R ≠ g) (hR : Hid (w.heap[R]? = some (.cells #[.slice A n c, .int .i64 pos, pv] TR (0, 0)))) (hg : Hid (w.heap[g]? = some (.cells cur.toArray T (0, 0)))) (hfit : off + m ≤ cur.length) (hA : RB w A l) (hAR : ∀ a, A = some a → a.block ≠ R ∧ a.block ≠ g) :
    Calls Tryz.prog 107 #[.pointer (some ⟨R, 0, none⟩), .slice (some ⟨g, off, none⟩) m mc] w fun e w' => e = .returned (.tuple #[.int .i64 (Nat.min (n - pos) m : Nat), .nilIface]) ∧
      Hid (w'.heap[R]? = some (.cells #[.slice A n c, .int .i64 (pos + Nat.min (n - pos) m : Nat), .int .i64 (-1)] TR (0, 0))) ∧ Hid (w'.heap[g]? = some (.cells (splice cur off (((l.drop pos).take m).map bv)).toArray T (0, 0))) ∧
      Chg (fun k => k = R ∨ k = g) w w' ∧ w'.heap.size = w.heap.size := by
  have c0 := cell_of_row w R 0 _ _ _ hR.out
  have c1 := cell_of_row w R 1 _ _ _ hR.out
  have c2 := cell_of_row w R 2 _ _ _ hR.out
  have f1 := frozen_of_row w R 1 _ _ hR.out
  have f2 := frozen_of_row w R 2 _ _ hR.out
  simp at c0 c1 c2
  have hsl := fun W => run_slice_from (P := Tryz.prog) Tryz.underlying34 (info_parts Tryz.infoByte).choose_spec.1 (info_parts Tryz.infoByte).choose_spec.2.2.1 A n c pos .i64 (by omega) W
  have HR := Lib.hid hA
  clear hA
  go_enter Tryz.func107, Tryz.ntmps107
  go_wp2
  go_quiet (fail)
  go_wp2
  -- the world with no rune before
  have hchg : Chg (· = R) w ((w.drewN nq).setCell ⟨R, 2, none⟩ (.int .i64 (-1))) := ((Chg.refl _ w).drewN nq).setCell _ _ (.inl rfl)
  have hsz : ((w.drewN nq).setCell ⟨R, 2, none⟩ (.int .i64 (-1))).heap.size = w.heap.size := by simp
  have hR2 : ((w.drewN nq).setCell ⟨R, 2, none⟩ (.int .i64 (-1))).heap[R]? = some (.cells #[.slice A n c, .int .i64 pos, .int .i64 (-1)] TR (0, 0)) := by
    rw [heap_setCell_same (w.drewN nq) R 2 _ TR _ hR.out]
    rfl
  generalize (w.drewN nq).setCell ⟨R, 2, none⟩ (.int .i64 (-1)) = W2 at hchg hsz hR2 ⊢
  have HS := Lib.hid hsz
  have HR2 := Lib.hid hR2
  have d0 : W2.cell? ⟨R, 0, none⟩ = some (.slice A n c) := cell_of_row W2 R 0 _ _ _ hR2
  have d1 : W2.cell? ⟨R, 1, none⟩ = some (.int .i64 pos) := cell_of_row W2 R 1 _ _ _ hR2
  have hrd : RB W2 (slA A c pos) (l.drop pos) := (HR.out.chg hchg fun a ha => (hAR a ha).1).drop (by rw [← hN.out]; exact hnc) pos
  have hlen : (l.drop pos).length = n - pos := by rw [List.length_drop, ← hN.out]
  have HL := Lib.hid hlen
  have HRD := Lib.hid hrd
  have hg2 : Hid (W2.heap[g]? = some (.cells cur.toArray T (0, 0))) := hchg.row hg.out (fun e => hRg e.symm)
  have hRlt : R < W2.heap.size := World.block_lt_of_cell? W2 _ d0
  have hmin0 : 0 < Nat.min (n - pos) m := Nat.lt_min.2 ⟨by omega, hm⟩
  have hminle : Nat.min (n - pos) m ≤ m := Nat.min_le_right _ _
  have hminle2 : Nat.min (n - pos) m ≤ n - pos := Nat.min_le_left _ _
  clear c0 c1 c2 f1 f2 hsz hR2 hlen hrd
  go_region_held3 (fun w' => w'.cell? ⟨R, 0, none⟩ = some (.slice A n c) ∧ w'.cell? ⟨R, 1, none⟩ = some (.int .i64 pos)) (first | go_keep | exact ⟨(hc3.cell (p := ⟨R, 0, none⟩) hRlt hRg).trans d0, (hc3.cell (p := ⟨R, 1, none⟩) hRlt hRg).trans d1⟩)
    ((refine step_copy_bytes (by rfl) (.tmp 20) (.tmp 29) 34 34 (by rfl) 5 Tryz.underlying34 Tryz.sizeByte g off m mc (slA A c pos) (n - pos) (c - pos) (by rfl) (by rfl) cur T (by exact hg2) (l.drop pos) HL.out (by exact HRD.out) hmin0 (by omega) ?_; intro w3 hg3 hc3 hs3))
  have hR3 : w3.heap[R]? = some (.cells #[.slice A n c, .int .i64 pos, .int .i64 (-1)] TR (0, 0)) := hc3.row (HR2.out) hRg
  have e1 : w3.cell? ⟨R, 1, none⟩ = some (.int .i64 pos) := cell_of_row w3 R 1 _ _ _ hR3
  have e2 := frozen_of_row w3 R 1 _ _ hR3
  have HR3 := Lib.hid hR3
  clear hR3
  go_wp2
  go_ret2
  have k1 : Chg (fun k => k = R ∨ k = g) w W2 := hchg.mono (fun _ _ e => .inl e)
  have k2 : Chg (fun k => k = R ∨ k = g) w w3 := k1.trans ⟨hc3.os, hc3.tape, hc3.output, hc3.size, fun k hk hs => hc3.block k hk (fun e => hs (.inl (.inr e)))⟩
  refine ⟨rfl, ?_, ?_, k2.setCell _ _ (.inl (.inl rfl)), ?_⟩
  · show _ = _
    rw [heap_setCell_same w3 R 1 _ TR _ HR3.out]
    rfl
  · exact Lib.hid ((heap_setCell_other w3 _ g _ (fun e => hRg e.symm)).trans hg3.out)
  · rw [World.size_setCell, hs3]
    exact HS.out

theorem splice_all {α : Type} (L cs : List α) (h : cs.length = L.length) : splice L 0 cs = cs := by
  unfold splice
  rw [List.drop_of_length_le (by omega)]
  simp

theorem nilRead (f : Nat) (a : Addr) (w : World) : (nilAhead (f + 1) 85 (.pointer (some a)) "Read").run Tryz.prog w = .ok (some false) w := by kernel_rfl
theorem methodRead (f : Nat) (a : Addr) (w : World) : (method (f + 1) 85 (.pointer (some a)) "Read").run Tryz.prog w = .ok (107, .pointer (some a)) w := by kernel_rfl

set_option maxRecDepth 100000 in
set_option maxHeartbeats 400000 in
/-- As many bytes are read as there is room for. -/
theorem readAtLeast_all (R g : Nat) (A : Option Addr) (l : List UInt8) (n c pos m : Nat) (pv : Value) (TR T : TypeId) (cur : List Value) (w : World)
    (hN : Hid (n = l.length)) (hb : n ≤ 2147483647) (hpos : pos + m ≤ n) (hm : 0 < m) (hm' : m ≤ 2147483647) (hnc : n ≤ c)
    (hRg : R ≠ g) (hR : Hid (w.heap[R]? = some (.cells #[.slice A n c, .int .i64 pos, pv] TR (0, 0)))) (hg : Hid (w.heap[g]? = some (.cells cur.toArray T (0, 0)))) (hfit : m = cur.length) (hA : RB w A l) (hAR : ∀ a, A = some a → a.block ≠ R ∧ a.block ≠ g) :
    Calls Tryz.prog 57 #[.iface 85 (.pointer (some ⟨R, 0, none⟩)), .slice (some ⟨g, 0, none⟩) m m, .int .i64 m] w fun e w' => e = .returned (.tuple #[.int .i64 m, .nilIface]) ∧
      Hid (w'.heap[R]? = some (.cells #[.slice A n c, .int .i64 (pos + m : Nat), .int .i64 (-1)] TR (0, 0))) ∧ Hid (w'.heap[g]? = some (.cells (((l.drop pos).take m).map bv).toArray T (0, 0))) ∧
      Chg (fun k => k = R ∨ k = g) w w' ∧ w'.heap.size = w.heap.size := by
  have hF := Lib.hid hfit
  have hmin : Nat.min (n - pos) m = m := Nat.min_eq_right (by omega)
  have HM := Lib.hid hmin
  clear hfit hmin
  have hn1 : ∀ w, (nilAhead 338 85 (.pointer (some ⟨R, 0, none⟩)) "Read").run Tryz.prog w = .ok (some false) w := fun w => nilRead _ ⟨R, 0, none⟩ w
  have hm1 : ∀ w, (method 338 85 (.pointer (some ⟨R, 0, none⟩)) "Read").run Tryz.prog w = .ok (107, .pointer (some ⟨R, 0, none⟩)) w := fun w => methodRead _ ⟨R, 0, none⟩ w
  go_enter Tryz.func57, Tryz.ntmps57
  go_wp2
  -- the first round
  refine wp_loop_rounds 2 ?_
  rw [rounds_succ]
  go_wp2
  go_region_held3 (fun _ => True) (trivial) (first | (go_at_call 107; refine (bytesRead_some R g 0 A l n c pos m m pv TR T cur _ hN hb (by omega) hm hm' hnc hRg (by exact hR) (by exact hg) (by have := hF.out; omega) (by exact hA) hAR).mono ?_; rintro e w2 ⟨rfl, hR2, hg2, hc2, hs2⟩))
  rw [HM.out] at hR2 ⊢
  go_wp2
  rw [rounds_succ]
  go_wp2
  go_ret2
  refine ⟨rfl, hR2, ?_, ⟨hc2.os, hc2.tape, hc2.output, hc2.size, hc2.block⟩, hs2⟩
  have hlen : (((l.drop pos).take m).map bv).length = cur.length := by
    have := hF.out
    have := hN.out
    simp
    omega
  rw [splice_all _ _ hlen] at hg2
  exact hg2

set_option maxHeartbeats 400000 in
theorem readFull_all (R g : Nat) (A : Option Addr) (l : List UInt8) (n c pos m : Nat) (pv : Value) (TR T : TypeId) (cur : List Value) (w : World)
    (hN : Hid (n = l.length)) (hb : n ≤ 2147483647) (hpos : pos + m ≤ n) (hm : 0 < m) (hm' : m ≤ 2147483647) (hnc : n ≤ c)
    (hRg : R ≠ g) (hR : Hid (w.heap[R]? = some (.cells #[.slice A n c, .int .i64 pos, pv] TR (0, 0)))) (hg : Hid (w.heap[g]? = some (.cells cur.toArray T (0, 0)))) (hfit : Hid (m = cur.length)) (hA : RB w A l) (hAR : ∀ a, A = some a → a.block ≠ R ∧ a.block ≠ g) :
    Calls Tryz.prog 44 #[.iface 85 (.pointer (some ⟨R, 0, none⟩)), .slice (some ⟨g, 0, none⟩) m m] w fun e w' => e = .returned (.tuple #[.int .i64 m, .nilIface]) ∧
      Hid (w'.heap[R]? = some (.cells #[.slice A n c, .int .i64 (pos + m : Nat), .int .i64 (-1)] TR (0, 0))) ∧ Hid (w'.heap[g]? = some (.cells (((l.drop pos).take m).map bv).toArray T (0, 0))) ∧
      Chg (fun k => k = R ∨ k = g) w w' ∧ w'.heap.size = w.heap.size := by
  have H := Lib.hid (readAtLeast_all R g A l n c pos m pv TR T cur w hN hb hpos hm hm' hnc hRg hR hg hfit.out hA hAR)
  go_enter Tryz.func44, Tryz.ntmps44
  go_wp2_with fail
  refine H.out.mono ?_
  rintro e w2 ⟨rfl, h1, h2, h3, h4⟩
  have H4 := Lib.hid h4
  clear h4
  go_wp2
  go_ret2
  exact ⟨rfl, h1, h2, h3, H4.out⟩

set_option maxHeartbeats 400000 in
theorem newReader (v : Value) (A : Option Addr) (n c : Nat) (hv : v = .slice A n c) (w : World) : Calls Tryz.prog 29 #[v] w fun e w' => e = .returned (.pointer (some ⟨w.heap.size, 0, none⟩)) ∧ w.alloc (.cells #[v, .int .i64 0, .int .i64 (-1)] 141) = w' := by
  subst hv
  go_enter Tryz.func29, Tryz.ntmps29
  go_wp2
  go_ret
  exact ⟨rfl, rfl⟩

/-- A new slice of noughts. -/
theorem makeBytes (Z : Nat) (hZ : Z ≤ 65536) : ∃ cur : List Value, Hid (Z = cur.length) ∧ ∀ w, (Instr.makeSlice 34 (.int .i64 (Z : Int)) (.int .i64 (Z : Int))).run Tryz.prog w = .ok (.slice (some ⟨w.heap.size, 0, none⟩) Z Z) (w.alloc (.cells cur.toArray 5)) := by
  obtain ⟨i0, hi, hz0, hz1, hz2⟩ := info_parts Tryz.infoByte
  refine ⟨(madeCells (Value.cells (.int .u8 0)) (Z * i0.size)).toList, Lib.hid (by rw [Array.length_toList, size_madeCells, hz1]; omega), fun w => ?_⟩
  have hr := run_make (P := Tryz.prog) w 34 5 i0 (.int .u8 0) Tryz.underlying34 hi hz0 .i64 .i64 Z Z (by omega) (by omega) (by rw [hz2]; omega) (by omega)
  simpa using hr
end Go.Proofs.YtbpebngjpecncaaGreatDoor
