/-
  Numbers in bytes one behind the other, as the reference writes them: the contract of row.
-/
import Derived.Test.YtbpebngjpecncaaGreatDoorBytes
import Derived.Test.YtbpebngjpecncaaGreatDoorGen
import Derived.Test.YtbpebngjpecncaaGreatDoorStep
namespace Go.Proofs.YtbpebngjpecncaaGreatDoor
set_option linter.unusedVariables false
set_option linter.unusedSimpArgs false
set_option maxRecDepth 100000
open Go Go.RowKit
attribute [local go_sem ↓] Go.wp_at_zero Go.wp_at_succ

/-- The bytes; a width below 0 is so many noughts. -/
def rowB : List Int → List Nat → List UInt8
  | [], _ => []
  | x :: ws, ns => if x < 0 then List.replicate x.natAbs 0 ++ rowB ws ns else mkBytes false x.toNat (ns.headD 0) ++ rowB ws ns.tail
/-- How many numbers are written. -/
def cntW : List Int → Nat
  | [] => 0
  | x :: ws => (if x < 0 then 0 else 1) + cntW ws
/-- Widths of which the first one alone may be -8. -/
def widthsOk (ws : List Int) : Prop := ∀ k x, ws[k]? = some x → (0 < x ∧ x ≤ 8) ∨ (k = 0 ∧ x = -8)

/-- Eight noughts are appended to nothing. -/
theorem run_append_zeros {P : Program} (w : World) (t tI ty e : TypeId) (i : TypeInfo) (b : Addr) (ht : P.underlying t = some (.slice e)) (hI : P.underlying tI = some (.int .i64)) (hi : P.info? e = some i) (hz : i.zero = some (.int .u8 0)) (hs : i.size = 1) (hb : i.bytes = 1) :
    (Builtin.append_ #[t, tI] ty #[.slice (some b) 0 0, .int .i64 8]).run P w =
      .ok (.slice (some ⟨w.heap.size, 0, none⟩) 8 (grownCap w 8 0 e)) (w.drew.alloc (.cells (Builtin.zeroCells #[.int .u8 0] 8 ++ Builtin.zeroCells #[.int .u8 0] (grownCap w 8 0 e - 8)) e)) := by
  have hf : ∀ W : World, (Builtin.firstCells 1 0 (.slice (some b) 0 0)).run P W = .ok #[] W := fun W => by simp [Builtin.firstCells, loadCells, loadCellsFrom]
  have h48 : ¬ (281474976710656 < Builtin.nextslicecap 8 0) := by decide
  have h63 : ¬ ((9223372036854775807 : Int) < max 8 0) := by decide
  have hw : IntKind.i64.wrap 8 = 8 := by decide
  simp [Builtin.append_, run_underlying ht, run_underlying hI, sizeOf, typeInfo, zeroValue, hi, hz, hs, hb, hw, asInt, asIntOf, Builtin.lenOf, h48, h63, Question.forced, hf, newRow, grownCap, Value.cells]
theorem zeros8 : (Builtin.zeroCells #[.int .u8 0] 8).toList = (List.replicate 8 (0 : UInt8)).map bv := by kernel_rfl
theorem zeros_own {w : World} {e : TypeId} {base : Nat} (hbase : base ≤ w.heap.size) :
    (w.alloc (.cells (Builtin.zeroCells #[.int .u8 0] 8 ++ Builtin.zeroCells #[.int .u8 0] ((Question.appendCap 8 0 e).cut (w.tape w.drawn (Question.appendCap 8 0 e)) - 8)) e)).drew.ownsRow base e 1 (.slice (some ⟨w.heap.size, 0, none⟩) 8 ((Question.appendCap 8 0 e).cut (w.tape w.drawn (Question.appendCap 8 0 e)))) 8 ((List.replicate 8 (0 : UInt8)).map bv) ∧
    Below w.heap.size w (w.alloc (.cells (Builtin.zeroCells #[.int .u8 0] 8 ++ Builtin.zeroCells #[.int .u8 0] ((Question.appendCap 8 0 e).cut (w.tape w.drawn (Question.appendCap 8 0 e)) - 8)) e)).drew := by
  have hge : 8 ≤ (Question.appendCap 8 0 e).cut (w.tape w.drawn (Question.appendCap 8 0 e)) := grownCap_ge w 8 0 e
  have hle : (Question.appendCap 8 0 e).cut (w.tape w.drawn (Question.appendCap 8 0 e)) ≤ maxLen := grownCap_le_maxLen w 8 0 e (by simp [maxLen])
  generalize (Question.appendCap 8 0 e).cut (w.tape w.drawn (Question.appendCap 8 0 e)) = C at *
  refine ⟨⟨by simp, .inr ⟨w.heap.size, C, Builtin.zeroCells #[.int .u8 0] 8 ++ Builtin.zeroCells #[.int .u8 0] (C - 8), rfl, hbase, heap_alloc_new w _, hge, hle, ?_, ?_⟩⟩, ((Below.refl _ w).alloc (Nat.le_refl _) _).drew⟩
  · simp only [Array.size_append, size_zeroCells]
    simp
    omega
  · rw [Array.toList_append, zeros8]
    exact List.take_left' (by simp)

/-- A part of a slice of numbers. -/
theorem RC.tail {w : World} {A : Option Addr} {n : Nat} {vs : List Value} (h : RC w A 1 n vs) {c : Nat} (hn : 0 < n) (hc : n ≤ c) : RC w (slA A c 1) 1 (n - 1) (vs.drop 1) := by
  refine ⟨by have := h.1; simp; omega, fun h0 => ?_⟩
  have hlen := h.1
  obtain ⟨u, hu⟩ : ∃ u, vs[0]? = some u := ⟨_, List.getElem?_eq_getElem (by omega)⟩
  obtain ⟨b, o, rfl, -⟩ := h.get 0 u hu
  rw [slA_some b o c 1 (by omega)]
  refine ⟨_, rfl, fun j v hv => ?_⟩
  rw [List.getElem?_drop] at hv
  obtain ⟨b', o', e, hc'⟩ := h.get (1 + j) v hv
  simp only [Option.some.injEq, Addr.mk.injEq, and_true] at e
  obtain ⟨rfl, rfl⟩ := e
  rw [add_off, Nat.add_assoc]
  exact hc'

theorem cntW_drop (ws : List Int) (k : Nat) (x : Int) (h : ws[k]? = some x) : cntW (ws.drop k) = (if x < 0 then 0 else 1) + cntW (ws.drop (k + 1)) := by
  obtain ⟨hk, rfl⟩ := List.getElem?_eq_some_iff.1 h
  rw [List.drop_eq_getElem_cons hk]
  rfl
theorem rowB_drop (ws : List Int) (k : Nat) (x : Int) (ns : List Nat) (h : ws[k]? = some x) : rowB (ws.drop k) ns = if x < 0 then List.replicate x.natAbs 0 ++ rowB (ws.drop (k + 1)) ns else mkBytes false x.toNat (ns.headD 0) ++ rowB (ws.drop (k + 1)) ns.tail := by
  obtain ⟨hk, rfl⟩ := List.getElem?_eq_some_iff.1 h
  rw [List.drop_eq_getElem_cons hk]
  rfl

set_option maxHeartbeats 4000000 in
theorem specRow_any (A1 A2 : Option Addr) (n1 c1 n2 c2 : Nat) (ws : List Int) (ns : List Nat) (w : World) (hw : Hid (widthsOk ws)) (hcnt : Hid (cntW ws ≤ n2)) (h1 : n1 ≤ 100) (h2 : n2 ≤ 100) (hc2 : n2 ≤ c2) (hns : Hid (∀ v ∈ ns, v ≤ 18446744073709551615))
    (hW : Hid (RC w A1 1 n1 (ws.map iv))) (hN : Hid (RC w A2 1 n2 (ns.map uv))) :
    Calls Tryz.prog 12 #[.bool false, .slice A1 n1 c1, .slice A2 n2 c2] w fun e w' => (∃ v, e = .returned v ∧ Hid (w'.ownsRow w.heap.size 5 1 v (rowB ws ns).length ((rowB ws ns).map bv))) ∧ Below w.heap.size w w' := by
  obtain ⟨i0, hi, hz0, hz1, hz2⟩ := info_parts Tryz.infoByte
  have hl1 : Hid (ws.length = n1) := Lib.hid (by have := hW.out.1; simpa using this)
  have hI := Tryz.underlying3
  go_enter Tryz.func12, Tryz.ntmps12
  go_wp2
  go_loopw [2, 7, 13] (fun s v i wr => ∃ (k : Nat) (A : Option Addr) (m c : Nat) (acc : List UInt8) (rest : List Nat), k ≤ n1 ∧ i = .int .i64 k ∧ s = .slice A m c ∧ m ≤ c ∧ m ≤ 100 ∧ Hid (cntW (ws.drop k) ≤ m) ∧ Hid (RC w A 1 m (rest.map uv)) ∧ Hid (∀ v ∈ rest, v ≤ 18446744073709551615) ∧
    Hid (acc ++ rowB (ws.drop k) rest = rowB ws ns) ∧ acc.length ≤ 8 * k ∧ Hid (k = 0 → v = .slice (some ⟨w.heap.size, 0, none⟩) 0 0) ∧ Hid (wr.ownsRow w.heap.size 5 1 v acc.length (acc.map bv)) ∧ Hid (Below w.heap.size w wr)) (fun _ _ i _ => n1 - (intOf i).toNat)
  case atStart => exact ⟨0, A2, n2, c2, [], ns, Nat.zero_le _, rfl, rfl, hc2, h2, hcnt, hN, hns, Lib.hid rfl, Nat.le_refl _, Lib.hid (fun _ => rfl), Lib.hid (owns_new _ (Nat.le_refl _)), Lib.hid ((Below.refl _ _).alloc (Nat.le_refl _) _)⟩
  case round =>
    obtain ⟨k, A, m, c, acc, rest, hk, rfl, rfl, hmc, hm, hct, hrc, hbd, htot, hal, hk0, hown, hbl⟩ := hrel
    have hz := hbl.out.size
    by_cases hkn : k < n1
    · obtain ⟨x, hx⟩ : ∃ x, ws[k]? = some x := ⟨_, List.getElem?_eq_getElem (by rw [hl1.out]; exact hkn)⟩
      obtain ⟨b, o, hA1, hcx⟩ := hW.out.get k (iv x) (by rw [List.getElem?_map, hx]; rfl)
      subst hA1
      have hcell : wr.cell? ⟨b, o + k, none⟩ = some (.int .i64 x) := (hbl.out.cell (p := ⟨b, o + k, none⟩) (World.block_lt_of_cell? w _ hcx)).trans hcx
      have hxk := hw.out k x hx
      have e1 := cntW_drop ws k x hx
      have e2 := rowB_drop ws k x rest hx
      by_cases hneg : x < 0
      · obtain ⟨rfl, rfl⟩ : k = 0 ∧ x = -8 := by rcases hxk with h | h; omega; exact h
        have hv : u7 = .slice (some ⟨w.heap.size, 0, none⟩) 0 0 := hk0.out rfl
        subst hv
        obtain rfl : acc = [] := List.eq_nil_of_length_eq_zero (by omega)
        obtain ⟨own2, b2⟩ := zeros_own (w := wr) (e := 5) (base := w.heap.size) hz
        have htot2 : Hid (List.replicate 8 0 ++ rowB (ws.drop 1) rest = rowB ws ns) := Lib.hid (by
          have := htot.out
          rw [e2, if_pos hneg] at this
          simpa using this)
        have hct2 : Hid (cntW (ws.drop 1) ≤ m) := Lib.hid (by
          have := hct.out
          rw [e1, if_pos hneg] at this
          simpa using this)
        have hcell0 : wr.cell? ⟨b, o, none⟩ = some (.int .i64 (-8)) := hcell
        have hbl2 := Lib.hid (hbl.out.trans (b2.mono hz))
        replace own2 := Lib.hid own2
        have hneg' : (-8 : Int) < 0 := by decide
        clear hown hbl b2 e1 e2 hct htot hk0 hx hneg hcell hcx
        go_wp2
        go_roundw
        case rel => exact ⟨1, A, m, c, List.replicate 8 0, rest, by omega, by go_num, rfl, hmc, hm, hct2, hrc, hbd, htot2, by simp, Lib.hid (fun h => by omega), own2, hbl2⟩
        case measure => simp [intOf]; omega
      · have hx8 : 0 < x ∧ x ≤ 8 := by rcases hxk with h | h; exact h; omega
        obtain ⟨W, rfl⟩ := Int.eq_ofNat_of_zero_le (show 0 ≤ x by omega)
        have hW0 : 0 < W := by omega
        have hW8 : W ≤ 8 := by omega
        have hm0 : 0 < m := by have := hct.out; rw [e1, if_neg hneg] at this; omega
        have hrl : rest.length = m := by have := hrc.out.1; simpa using this
        obtain ⟨r0, rt, rfl⟩ : ∃ r0 rt, rest = r0 :: rt := by
          cases rest with
          | nil => simp at hrl; omega
          | cons a r => exact ⟨a, r, rfl⟩
        obtain ⟨b2, o2, rfl, hc2x⟩ := hrc.out.get 0 (uv r0) rfl
        have hc2' : wr.cell? ⟨b2, o2, none⟩ = some (.int .u64 (r0 : Int)) := (hbl.out.cell (p := ⟨b2, o2, none⟩) (World.block_lt_of_cell? w _ hc2x)).trans hc2x
        have hr0 := hbd.out r0 (by simp)
        have CALL := Lib.hid (specBytes_any false W r0 hW8 hr0 wr)
        have hsl : ∀ W', (Instr.slice 25 (.slice (some ⟨b2, o2, none⟩) m c) (some (.int .i64 1)) none none).run Tryz.prog W' = .ok (.slice (slA (some ⟨b2, o2, none⟩) c 1) (m - 1) (c - 1)) W' := fun W' => run_slice_from (P := Tryz.prog) Tryz.underlying25 (info_parts Tryz.info64).choose_spec.1 (info_parts Tryz.info64).choose_spec.2.2.1 (some ⟨b2, o2, none⟩) m c 1 .i64 (by omega) W'
        have htl : Hid (mkBytes false W r0 ++ rowB (ws.drop (k + 1)) rt = rowB (ws.drop k) (r0 :: rt)) := Lib.hid (by rw [e2, if_neg hneg]; rfl)
        have hct2 : Hid (cntW (ws.drop (k + 1)) ≤ m - 1) := Lib.hid (by
          have := hct.out
          rw [e1, if_neg hneg] at this
          omega)
        have hrt := Lib.hid (hrc.out.tail (c := c) hm0 hmc)
        have hbt : Hid (∀ v ∈ rt, v ≤ 18446744073709551615) := Lib.hid (fun v hv => hbd.out v (List.mem_cons_of_mem _ hv))
        have hmi : (0 : Int) < (m : Int) := by omega
        have hm1 : (1 : Int) ≤ (m : Int) := by omega
        have hc1' : (m : Int) ≤ (c : Int) := by omega
        replace hr0 := Lib.hid hr0
        clear hct hrc hbd hk0 hx e1 e2 hc2x hrl hcx
        go_wp2_with fail
        refine CALL.out.mono ?_
        rintro e w2 ⟨⟨u, rfl, own2⟩, b2'⟩
        obtain ⟨-, A3, c3, rfl, R3, hc3, -, -, -⟩ := RB.of_owns own2
        have hown2 := Lib.hid (owns_later hown.out b2')
        have hz2 := b2'.size
        have d2 : w2.cell? ⟨b, o + k, none⟩ = some (.int .i64 (W : Int)) := (b2'.cell (p := ⟨b, o + k, none⟩) (World.block_lt_of_cell? _ _ hcell)).trans hcell
        have hbl2 := Lib.hid (hbl.out.trans (b2'.mono hz))
        replace R3 := Lib.hid R3
        have hml := Lib.hid (mkBytes_length false W r0)
        clear own2 hown b2' hbl
        go_wp2_with (at_builtin; refine Stop.mk ?_)
        refine Stop.go ?_
        refine wpList_append_bytes Tryz.underlying34 Tryz.infoByte rfl (.tmp 23) (.tmp 29) rfl w.heap.size _ acc.length acc rfl hown2.out A3 W c3 (mkBytes false W r0) rfl hml.out.symm R3.out (by omega) (by omega) ?_
        intro v4 w4 own4 g4 at4
        have own4' : Hid (w4.ownsRow w.heap.size 5 1 v4 (acc ++ mkBytes false W r0).length ((acc ++ mkBytes false W r0).map bv)) := Lib.hid (by rw [List.length_append, hml.out]; exact own4)
        have b4 : Below w.heap.size w w4 := hbl2.out.grown g4 (by omega) (fun q hq => (hown2.out.lt q hq).1)
        have hlen4 : (acc ++ mkBytes false W r0).length ≤ 8 * (k + 1) := by rw [List.length_append, hml.out]; omega
        have htot4 : Hid ((acc ++ mkBytes false W r0) ++ rowB (ws.drop (k + 1)) rt = rowB ws ns) := Lib.hid (by rw [List.append_assoc, htl.out]; exact htot.out)
        replace b4 := Lib.hid b4
        clear own4 g4 at4 hown2 hbl2 htl htot
        go_wp2
        go_roundw
        case rel => exact ⟨k + 1, _, m - 1, c - 1, acc ++ mkBytes false W r0, rt, by omega, by go_num, rfl, by omega, by omega, hct2, hrt, hbt, htot4, hlen4, Lib.hid (fun h => by omega), own4', b4⟩
        case measure => simp [intOf]; omega
    · obtain rfl : k = n1 := by omega
      have hnil : ws.drop k = [] := List.drop_eq_nil_of_le (by rw [hl1.out]; exact Nat.le_refl _)
      have hfin : acc = rowB ws ns := by
        have := htot.out
        rw [hnil] at this
        simpa [rowB] using this
      rw [hfin] at hown
      clear hnil hfin htot hal hk0 hct hrc hbd
      go_wp2
      go_ret
      exact ⟨⟨_, rfl, hown⟩, hbl.out⟩
end Go.Proofs.YtbpebngjpecncaaGreatDoor
