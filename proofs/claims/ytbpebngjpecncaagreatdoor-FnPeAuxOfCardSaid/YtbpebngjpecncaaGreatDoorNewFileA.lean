/-
  What NewFile calls, each in the one form that its walk asks.
  What is kept while a file is read. No program in sight.
  pe.NewFile over bytes that are as the reader wants them.
-/
import Derived.Test.YtbpebngjpecncaaGreatDoorPeLaid
import Derived.Test.YtbpebngjpecncaaGreatDoorRelocsP
import Derived.Test.YtbpebngjpecncaaGreatDoorOpt0P
import Derived.Test.YtbpebngjpecncaaGreatDoorOpt32Q
import Derived.Test.YtbpebngjpecncaaGreatDoorOpt64Q
import Derived.Test.YtbpebngjpecncaaGreatDoorAtoiZ
import Derived.Test.YtbpebngjpecncaaGreatDoorRow
import Derived.Lib.AtoiErrMem
import Derived.Test.YtbpebngjpecncaaGreatDoorPeOfT
import Derived.Deep.CutRange
import Derived.Deep.RegionLaw
import Derived.Deep.CutBlock
import Derived.StillTailTactics
namespace Go.Proofs.YtbpebngjpecncaaGreatDoor
set_option linter.unusedVariables false
set_option linter.unusedSimpArgs false
set_option maxRecDepth 100000
open Go Go.RowKit
attribute [local go_sem ↓] Go.wp_at_zero Go.wp_at_succ

theorem chg_of_new {S : Nat → Prop} {w w' : World} (hb : Below w.heap.size w w') : Chg S w w' := Chg.of_below hb (fun _ hk h => absurd hk (Nat.not_lt.2 h))

/-- A value of one cell is stored. -/
theorem wpList_store_one {P : Program} {ops : Array Oper} {rest : List Oper} {op : Oper} {a : Act} {w : World} {Q : Exit → Act → World → Prop} (hgd : op.guard = none) (ty : TypeId) (x y : Operand) (ho : op.op = .store ty x y)
    (g i : Nat) (t : TypeId) (cur : List Value) (v : Value) (hx : a.eval x = .pointer (some ⟨g, i, none⟩)) (hy : a.eval y = v) (hg : w.heap[g]? = some (.cells cur.toArray t (0, 0))) (hi : i < cur.length)
    (hsz : (P.info? ty).map (·.size) = some 1) (h1 : v.oneCell' = true)
    (h : wpList P ops Q rest (a.put op.dst undef) (w.setCell ⟨g, i, none⟩ v)) : wpList P ops Q (op :: rest) a w :=
  wpList_plain hgd fun _ hK => by
    have hrun : (Instr.storeAt ty (.pointer (some ⟨g, i, none⟩)) v).run P w = .ok () (w.setCell ⟨g, i, none⟩ v) := by
      cases hq : P.info? ty with
      | none => simp [hq] at hsz
      | some inf =>
        have hs' : inf.size = 1 := by simpa [hq] using hsz
        have hcell : w.cell? ⟨g, i, none⟩ = some (cur[i]'hi) := World.cell?_of_row hg i _ (List.getElem?_eq_getElem hi)
        have hfz := frozen_of_row _ g i _ _ hg
        have hst := run_storeCells_cells (P := P) g i [v] 0 w (fun j hj => by
          obtain rfl : j = 0 := by simpa using hj
          show (w.cell? ⟨g, i + 0 + 0, none⟩).isSome = true
          rw [show w.cell? ⟨g, i + 0 + 0, none⟩ = some (cur[i]'hi) from hcell]
          rfl) (fun j hj => by
          obtain rfl : j = 0 := by simpa using hj
          exact hfz) (fun u hu => by rw [List.mem_singleton.1 hu]; exact h1)
        have hcs : v.cells.toList = [v] := by cases v <;> first | (simp [Value.oneCell'] at h1; done) | rfl
        have hcz : v.cells.size = 1 := by rw [← Array.length_toList, hcs]; rfl
        have hst' : (storeCells ⟨g, i, none⟩ [v]).run P w = .ok () (w.setCell ⟨g, i, none⟩ v) := hst
        simp [Instr.storeAt, Instr.sureAddr, storeVar, sizeOf, typeInfo, hq, hs', hcz, hcs, hst']
    unfold Oper.wp execOp
    simp only [ho, hx, hy, Sem.run_bind, hrun, Result.andThen_ok, Sem.run_pure]
    exact hK _ _ h

theorem setRow_chg (w : World) (g : Nat) (cs : Array Value) : Chg (· = g) w (w.setRow g cs) :=
  ⟨rfl, rfl, rfl, by simp [World.setRow], fun k hk hs => by
    have hs' : ¬ g = k := fun e => hs e.symm
    simp [World.setRow, Array.getElem?_modify, hs']⟩
/-- A struct is stored at a row's head. -/
theorem wpList_store_head {P : Program} {ops : Array Oper} {rest : List Oper} {op : Oper} {a : Act} {w : World} {Q : Exit → Act → World → Prop} (hgd : op.guard = none) (ty : TypeId) (x y : Operand) (ho : op.op = .store ty x y)
    (g : Nat) (t : TypeId) (cur : Array Value) (cells : Array Value) (hx : a.eval x = .pointer (some ⟨g, 0, none⟩)) (hy : a.eval y = .agg cells) (hg : w.heap[g]? = some (.cells cur t (0, 0))) (hs : cells.size ≤ cur.size)
    (hi : (P.info? ty).map (·.size) = some cells.size) (h1 : ∀ v ∈ cells.toList, v.oneCell' = true)
    (h : wpList P ops Q rest (a.put op.dst undef) (w.setRow g (cells.toList ++ cur.toList.drop cells.toList.length).toArray)) : wpList P ops Q (op :: rest) a w :=
  wpList_plain hgd fun _ hK => by
    have hrun : (Instr.storeAt ty (.pointer (some ⟨g, 0, none⟩)) (.agg cells)).run P w = .ok () (w.setRow g (cells.toList ++ cur.toList.drop cells.toList.length).toArray) := by
      cases hq : P.info? ty with
      | none => simp [hq] at hi
      | some i =>
        have hs' : i.size = cells.size := by simpa [hq] using hi
        have hst := run_storeCells_at P g 0 t cells.toList 0 cur w hg (by simp; omega) h1
        simp only [Nat.zero_add, List.take_zero, List.nil_append] at hst
        simp [Instr.storeAt, Instr.sureAddr, storeVar, sizeOf, typeInfo, hq, hs', Value.cells, hst]
    unfold Oper.wp execOp
    simp only [ho, hx, hy, Sem.run_bind, hrun, Result.andThen_ok, Sem.run_pure]
    exact hK _ _ h

/-- A number out of text: its value. -/
theorem atoi_ok (s : ByteArray) (n : Int) (hl : s.size ≤ 18) (h : Lib.atoi s.data.toList = some n) (w : World) : Calls Tryz.prog 54 #[.string s] w fun e w' => e = .returned (.tuple #[.int .i64 n, .nilIface]) ∧ Below w.heap.size w w' :=
  (Tryz.strconv_Atoi s n hl h w).mono fun e w' ⟨h1, t, h2⟩ => ⟨h1, by rw [h2]; exact Lib.bytesWorld_below w _ _⟩

set_option maxHeartbeats 1000000 in
/-- The name of a section, where it is to be found. -/
theorem secName_ok (V : Nat) (nm name : List UInt8) (post : List Value) (TV : TypeId) (A : Option Addr) (t : List UInt8) (n c : Nat) (w : World) (h8 : Hid (nm.length = 8)) (hsec : Hid (secName nm t = some name)) (hN : Hid (n = t.length)) (hc : n ≤ c) (hb : n ≤ 2147483647) (hT : Hid (RB w A t))
    (hV : Hid (w.heap[V]? = some (.cells (nm.map bv ++ post).toArray TV (0, 0)))) :
    Calls Tryz.prog 41 #[.pointer (some ⟨V, 0, none⟩), .slice A n c] w fun e w' => e = .returned (.tuple #[.string ⟨name.toArray⟩, .nilIface]) ∧ Below w.heap.size w w' := by
  obtain ⟨y0, y1, y2, y3, y4, y5, y6, y7, rfl⟩ := list8' h8.out.symm
  have c0 := cellR hV.out 0 (.int .u8 (y0.toNat : Int)) rfl
  have HR : Hid (RB w (some ⟨V, 0, none⟩) [y0, y1, y2, y3, y4, y5, y6, y7]) := Lib.hid (RB.of_mid (pre := []) (post := post) hV.out rfl 0 rfl)
  have HR1 : Hid (RB w (some ⟨V, 1, none⟩) [y1, y2, y3, y4, y5, y6, y7]) := Lib.hid (RB.of_mid (pre := [bv y0]) (post := post) hV.out rfl 1 rfl)
  clear hV h8
  by_cases h47 : y0 = 47
  · have b0 : ((y0.toNat : Int) == 47) = true := by rw [h47]; rfl
    have b0' : ((y0.toNat : Int) != 47) = false := by rw [bne, b0]; rfl
    have hs2 := hsec.out
    unfold secName at hs2
    rw [if_neg (by simp [h47])] at hs2
    have htl : Hid ((text [y1, y2, y3, y4, y5, y6, y7]).length ≤ 7) := Lib.hid (text_le _)
    have CS := Lib.hid (cstring_any (some ⟨V, 1, none⟩) [y1, y2, y3, y4, y5, y6, y7] 7 7 rfl (by omega) w HR1.out)
    have hs3 : (match Lib.atoi (text [y1, y2, y3, y4, y5, y6, y7]) with
      | none => none
      | some i => if strOk t.length (i % 4294967296).toNat then some (strAt t (i % 4294967296).toNat) else none) = some name := hs2
    obtain ⟨S, eS⟩ : ∃ S, text [y1, y2, y3, y4, y5, y6, y7] = S := ⟨_, rfl⟩
    rw [eS] at htl CS hs3
    cases hat : Lib.atoi S with
    | none => rw [hat] at hs3; simp at hs3
    | some i =>
      rw [hat] at hs3
      simp only at hs3
      have AT := Lib.hid (atoi_ok ⟨S.toArray⟩ i (by have := htl.out; show S.toArray.size ≤ 18; simp; omega) hat w)
      have hle : (i % 4294967296).toNat ≤ 4294967295 := by omega
      have hwr : IntKind.u32.wrap i = (((i % 4294967296).toNat : Nat) : Int) := by rw [IntKind.wrap_u32]; omega
      obtain ⟨m, hm⟩ : ∃ m, (i % 4294967296).toNat = m := ⟨_, rfl⟩
      rw [hm] at hs3 hle hwr
      have hok : strOk t.length m = true := by
        cases hq : strOk t.length m with
        | true => rfl
        | false => rw [hq] at hs3; simp at hs3
      rw [hok] at hs3
      have R : Hid (text (t.drop (m - 4)) = name) := Lib.hid (by simpa [strAt, hok] using hs3)
      obtain ⟨h4, hs⟩ := strOk_yes hok
      rw [← hN.out] at hs
      clear eS h47 HR HR1 hs2 hs3 hok hm hat hsec htl
      go_enter Tryz.func41, Tryz.ntmps41
      go_wp2_with fail
      refine CS.out.mono ?_
      rintro e w' ⟨rfl, rfl⟩
      go_wp2_with fail
      refine AT.out.mono ?_
      rintro e w1 ⟨rfl, b1⟩
      have T1 := hT.out.later b1
      have CALL := Lib.hid (tableString_ok A t n c m hN.out hc hb h4 hs w1 T1)
      rw [R.out] at CALL
      replace b1 := Lib.hid b1
      clear h4 hs T1
      go_wp2_with fail
      refine CALL.out.mono ?_
      rintro e w' ⟨rfl, rfl⟩
      go_wp2
      go_ret2
      exact ⟨rfl, b1.out⟩
  · have b0 : ((y0.toNat : Int) == 47) = false := by
      rw [beq_eq_false_iff_ne]
      intro e
      apply h47
      apply UInt8.toNat_inj.1
      show y0.toNat = 47
      omega
    have b0' : ((y0.toNat : Int) != 47) = true := by rw [bne, b0]; rfl
    have hs2 := hsec.out
    unfold secName at hs2
    rw [if_pos (by simp [h47])] at hs2
    have CS := Lib.hid (cstring_any (some ⟨V, 0, none⟩) [y0, y1, y2, y3, y4, y5, y6, y7] 8 8 rfl (by omega) w HR.out)
    rw [Option.some.inj hs2] at CS
    clear hs2 h47 HR HR1 hsec
    go_enter Tryz.func41, Tryz.ntmps41
    go_wp2_with fail
    refine CS.out.mono ?_
    rintro e w' ⟨rfl, rfl⟩
    go_wp2
    go_ret2
    exact ⟨rfl, Below.refl _ _⟩

/-- The optional header, whatever it is. -/
theorem optAny (M S pos : Nat) (D : Nat → Prop) (l : List UInt8) (w : World) (hR : Hid (Rdr w (secV M) M D l pos)) (ho : Hid (OptOk ((l.drop pos).take S))) (hpos : Hid (pos + S ≤ l.length)) :
    Calls Tryz.prog 39 #[secV M, .int .u16 (S : Int)] w fun e w' => (∃ v, e = .returned (.tuple #[v, .nilIface]) ∧ v.oneCell' = true) ∧ Hid (Rdr w' (secV M) M D l (pos + S)) ∧ Chg (· = M) w w' := by
  have hl : ((l.drop pos).take S).length = S := by have := hpos.out; simp; omega
  rcases ho.out with h | ⟨n, hn, h1, h2, h3⟩ | ⟨n, hn, h1, h2, h3⟩
  · obtain rfl : S = 0 := by rw [h] at hl; simpa using hl.symm
    refine (optNone M w).mono ?_
    rintro e w' ⟨rfl, hb⟩
    exact ⟨⟨_, rfl, rfl⟩, Lib.hid (hR.out.later hb), chg_of_new hb⟩
  · have hS : S = 96 + 8 * n := by omega
    have h2' : num false ((l.drop pos).take 2) = 267 := by rw [← h2, List.take_take]; congr 2; omega
    have h3' : num false ((l.drop (pos + 92)).take 4) = n := by
      have e : (l.drop (pos + 92)).take 4 = (((l.drop pos).take S).drop 92).take 4 := by
        rw [List.drop_take, List.take_take, List.drop_drop]
        congr 1
        omega
      rw [e]
      exact h3
    refine (readOptQ32 M n S pos D l w hn (Lib.hid hS) hR (Lib.hid h2') (Lib.hid h3') (Lib.hid (by have := hpos.out; omega))).mono ?_
    rintro e w' ⟨⟨T, p, rfl⟩, hr, hc⟩
    exact ⟨⟨_, rfl, rfl⟩, Lib.hid (by rw [hS, ← Nat.add_assoc]; exact hr.out), hc⟩
  · have hS : S = 112 + 8 * n := by omega
    have h2' : num false ((l.drop pos).take 2) = 523 := by rw [← h2, List.take_take]; congr 2; omega
    have h3' : num false ((l.drop (pos + 108)).take 4) = n := by
      have e : (l.drop (pos + 108)).take 4 = (((l.drop pos).take S).drop 108).take 4 := by
        rw [List.drop_take, List.take_take, List.drop_drop]
        congr 1
        omega
      rw [e]
      exact h3
    refine (readOptQ64 M n S pos D l w hn (Lib.hid hS) hR (Lib.hid h2') (Lib.hid h3') (Lib.hid (by have := hpos.out; omega))).mono ?_
    rintro e w' ⟨⟨T, p, rfl⟩, hr, hc⟩
    exact ⟨⟨_, rfl, rfl⟩, Lib.hid (by rw [hS, ← Nat.add_assoc]; exact hr.out), hc⟩

/-- The table of symbols, empty or not. -/
theorem syms_zero (H ho place M : Nat) (w : World) (hpl0 : 0 < place) (h3c : w.cell? ⟨H, ho + 3, none⟩ = some (.int .u32 place)) (h4c : w.cell? ⟨H, ho + 4, none⟩ = some (.int .u32 0)) :
    Calls Tryz.prog 37 #[.pointer (some ⟨H, ho, none⟩), (secV M)] w fun e w' => e = .returned (.tuple #[.slice none 0 0, .nilIface]) ∧ w = w' := by
  have hp0 : ((place : Int) == 0) = false := by rw [beq_eq_false_iff_ne]; omega
  go_enter Tryz.func37, Tryz.ntmps37
  go_wp2
  go_ret2
  exact ⟨rfl, rfl⟩
theorem symsAny (H ho place n : Nat) (M : Nat) (D : Nat → Prop) (l : List UInt8) (w : World) (hR : Hid (∃ pos, Rdr w (secV M) M D l pos)) (hpl0 : 0 < place) (hpl : place ≤ 4294967295) (hn' : n ≤ 65535) (hHM : H ≠ M)
    (h3c : w.cell? ⟨H, ho + 3, none⟩ = some (.int .u32 place)) (h4c : w.cell? ⟨H, ho + 4, none⟩ = some (.int .u32 n)) (hful : Hid (place + 18 * n ≤ l.length)) (hfin : Hid ((symSt (l.drop place) n).2 = 0)) :
    Calls Tryz.prog 37 #[.pointer (some ⟨H, ho, none⟩), (secV M)] w fun e w' => (∃ v, e = .returned (.tuple #[v, .nilIface]) ∧ Hid (w'.ownsRow w.heap.size 99 13 v n (symRow (l.drop place) n))) ∧ Hid (∃ p, Rdr w' (secV M) M D l p) ∧ Chg (fun k => k = M) w w' := by
  by_cases h0 : n = 0
  · subst h0
    refine (syms_zero H ho place M w hpl0 h3c h4c).mono ?_
    rintro e w' ⟨rfl, rfl⟩
    exact ⟨⟨_, rfl, Lib.hid (World.ownsRow_nil _ _ _ _)⟩, hR, Chg.refl _ _⟩
  · obtain ⟨pos, hR'⟩ := hR.out
    refine (readSymbols_any H ho place n M D l pos w (Lib.hid hR') hpl0 hpl (by omega) hn' hHM h3c h4c hful hfin).mono ?_
    rintro e w' ⟨he, hr, hc⟩
    exact ⟨he, Lib.hid ⟨_, hr.out⟩, hc⟩
/-- The symbols without the auxiliary ones, none or some. -/
theorem remAny (v : Value) (base n : Nat) (s : List UInt8) (A : Option Addr) (t : List UInt8) (tc : Nat) (w : World) (hn : n ≤ 300) (hown : Hid (w.ownsRow base 99 13 v n (symRow s n)))
    (hsy : Hid (∃ (cs : Nat → CoffL) (au : Nat → Nat), (∀ k, k < n → (symSt s n).1[k]? = some (cs k) ∧ (cs k).name.length = 8 ∧ (cs k).aux = (au k : Int) ∧ au k < 256) ∧ (∀ k, k < n → (rem au k).2 = 0 → (symRes (cs k).name t).2 = true)))
    (hT : Hid (RB w A t)) (htc : t.length ≤ tc) (htb : t.length ≤ 2147483647) :
    Calls Tryz.prog 38 #[v, .slice A t.length tc] w fun e w' => (∃ V k c, e = .returned (.tuple #[.slice V k c, .nilIface])) ∧ Below w.heap.size w w' := by
  by_cases h0 : n = 0
  · subst h0
    obtain ⟨B, c, rfl, -⟩ := RT.of_owns hown.out
    refine (remAux_nil B A c t.length tc w).mono ?_
    rintro e w' ⟨rfl, rfl⟩
    exact ⟨⟨_, _, _, rfl⟩, Below.refl _ _⟩
  · obtain ⟨cs, au, hcs, hnm⟩ := hsy.out
    obtain ⟨g, cap, rfl, -, -, hlt, hcl⟩ := owns_cellsN hown.out (by omega)
    have hall : ∀ c ∈ (symSt s n).1.map symCells, c.length = 13 := by
      intro c hc
      obtain ⟨i, hi, rfl⟩ := List.getElem_of_mem hc
      rw [List.length_map, symSt_len] at hi
      obtain ⟨h1, h2, -⟩ := hcs i hi
      have h3 : (symSt s n).1[i]'(by rw [symSt_len]; exact hi) = cs i := by
        have := List.getElem?_eq_some_iff.1 h1
        exact this.2
      rw [List.getElem_map, h3]
      simp [symCells, symTail, h2]
    refine remAux_ok g n cap cs au A t t.length tc w (by omega) hn (Lib.hid (fun k hk => (hcs k hk).2)) (Lib.hid hnm) hT.out (Lib.hid rfl) htc htb hlt (Lib.hid (fun k hk j u hu => ?_))
    refine hcl _ u ?_
    refine flatten_at _ 13 hall k (symCells (cs k)) ?_ j u hu
    rw [List.getElem?_map, (hcs k hk).1]
    rfl
/-- The relocations of a section, none or some. -/
theorem relocsAny (H ho place n : Nat) (M : Nat) (D : Nat → Prop) (l : List UInt8) (w : World) (hR : Hid (∃ pos, Rdr w (secV M) M D l pos)) (hpl : place ≤ 4294967295) (hpos : Hid (n ≠ 0 → place + 10 * n ≤ l.length)) (hn' : n ≤ 65535) (hHM : H ≠ M)
    (h5 : w.cell? ⟨H, ho + 5, none⟩ = some (.int .u32 place)) (h7 : w.cell? ⟨H, ho + 7, none⟩ = some (.int .u16 n)) :
    Calls Tryz.prog 42 #[.pointer (some ⟨H, ho, none⟩), (secV M)] w fun e w' => (∃ A k c, e = .returned (.tuple #[.slice A k c, .nilIface])) ∧ Hid (∃ p, Rdr w' (secV M) M D l p) ∧ Chg (fun k => k = M) w w' := by
  by_cases h0 : n = 0
  · subst h0
    refine (readRelocs_zero H ho (secV M) w h7).mono ?_
    rintro e w' ⟨rfl, rfl⟩
    exact ⟨⟨_, _, _, rfl⟩, hR, Chg.refl _ _⟩
  · obtain ⟨pos, hR'⟩ := hR.out
    refine (readRelocs_all H ho place n M D l pos w (Lib.hid hR') hpl (Lib.hid (hpos.out h0)) (by omega) hn' hHM h5 h7).mono ?_
    rintro e w' ⟨⟨G, rfl, -, -⟩, hr, hc⟩
    exact ⟨⟨_, _, _, rfl⟩, Lib.hid ⟨_, hr.out⟩, hc⟩

set_option maxHeartbeats 1000000 in
/-- A section of whatever reader. -/
theorem newSec (T : TypeId) (p : Addr) (off n : Nat) (ho : off ≤ 4294967295) (hn : n ≤ 4294967295) (w : World) :
    Calls Tryz.prog 32 #[.iface T (.pointer (some p)), .int .i64 (off : Int), .int .i64 (n : Int)] w fun e w' => e = .returned (.pointer (some ⟨w.heap.size, 0, none⟩)) ∧ Below w.heap.size w w' := by
  have h1 : IntKind.i64.wrap (9223372036854775807 - (n : Int)) = 9223372036854775807 - (n : Int) := IntWalk.i64_in _ (by omega)
  have h2 : (off : Int) ≤ 9223372036854775807 - (n : Int) := by omega
  go_enter Tryz.func32, Tryz.ntmps32
  go_wp2
  go_ret
  exact ⟨rfl, (Below.refl _ _).alloc (Nat.le_refl _) _⟩
theorem Tryz.infoSecP : (Tryz.prog.info? 128).map (fun i => (i.zero, i.size, i.bytes)) = some (some (.pointer none), 1, 8) := by kernel_rfl
/-- A row of so many nil pointers. -/
theorem makeSecs (Z : Nat) (hZ : Z ≤ 65535) : ∀ w, (Instr.makeSlice 89 (.int .u16 (Z : Int)) (.int .u16 (Z : Int))).run Tryz.prog w = .ok (.slice (some ⟨w.heap.size, 0, none⟩) Z Z) (w.alloc (.cells (Array.replicate Z (Value.pointer none)) 128)) := by
  obtain ⟨i0, hi, hz0, hz1, hz2⟩ := info_parts Tryz.infoSecP
  intro w
  have hr := run_make (P := Tryz.prog) w 89 128 i0 (.pointer none) Tryz.underlying89 hi hz0 .u16 .u16 Z Z (by omega) (by omega) (by rw [hz2]; omega) (by omega)
  have hf := made_flat (Value.cells (.pointer none)) Z
  have h1 : (Value.cells (.pointer none)).size = 1 := rfl
  rw [h1] at hf
  rw [hz1] at hr
  have e : madeCells (Value.cells (.pointer none)) (Z * 1) = Array.replicate Z (Value.pointer none) := by
    apply Array.toList_inj.1
    rw [hf, Array.toList_replicate]
    have : (Value.cells (.pointer none)).toList = [.pointer none] := rfl
    rw [this]
    clear hr hf
    induction Z with
    | zero => rfl
    | succ n ih => rw [List.replicate_succ, List.flatten_cons, ih (by omega)]; rfl
  simp only [Int.toNat_natCast, e] at hr
  exact hr

open Go Go.RowKit

/-- The blocks of the reader of bytes: itself, its bytes. -/
def DR (R : Nat) (A : Option Addr) (k : Nat) : Prop := k = R ∨ ∃ a, A = some a ∧ a.block = k
/-- F: the file's block; M: the section that is the whole of the reader; R: the reader; A: its bytes. -/
structure NS (w0 w : World) (F M R : Nat) (A : Option Addr) (l : List UInt8) (fr : List Value) : Prop where
  r : ∃ p, Rdr w (secV M) M (DR R A) l p
  f : w.heap[F]? = some (.cells fr.toArray 94 (0, 0))
  b : Below w0.heap.size w0 w
  lF : w0.heap.size ≤ F
  lM : w0.heap.size ≤ M
  ne : F ≠ M
  hD : ∀ k, DR R A k → k < w0.heap.size
section
variable {w0 w w' : World} {F M R : Nat} {A : Option Addr} {l : List UInt8} {fr : List Value}
theorem NS.F_lt (h : NS w0 w F M R A l fr) : F < w.heap.size := (Array.getElem?_eq_some_iff.1 h.f).1
theorem NS.M_lt (h : NS w0 w F M R A l fr) : M < w.heap.size := by obtain ⟨p, hp⟩ := h.r; exact hp.lt
/-- A call has changed the section's block alone. -/
theorem NS.chg (h : NS w0 w F M R A l fr) (hc : Chg (· = M) w w') (hr : Hid (∃ p, Rdr w' (secV M) M (DR R A) l p)) : NS w0 w' F M R A l fr :=
  ⟨hr.out, hc.row h.f h.ne, h.b.trans (hc.below h.b.size (fun k hk e => by have := h.lM; omega)), h.lF, h.lM, h.ne, h.hD⟩
theorem NS.later (h : NS w0 w F M R A l fr) (hb : Below w.heap.size w w') : NS w0 w' F M R A l fr := by
  obtain ⟨p, hp⟩ := h.r
  exact ⟨⟨p, hp.later hb⟩, (row_later hb (Lib.hid h.f)).out, h.b.trans (hb.mono h.b.size), h.lF, h.lM, h.ne, h.hD⟩
/-- Blocks of the call's own, other than these two, have changed. -/
theorem NS.chgS {S : Nat → Prop} (h : NS w0 w F M R A l fr) (hc : Chg S w w') (hF : ¬ S F) (hM : ¬ S M) (hS : ∀ k, S k → w0.heap.size ≤ k) : NS w0 w' F M R A l fr := by
  obtain ⟨p, hp⟩ := h.r
  exact ⟨⟨p, hp.chg hc hM (fun k hk e => by have := h.hD k hk; have := hS k e; omega)⟩, hc.row h.f hF, h.b.trans (hc.below h.b.size (fun k hk e => by have := hS k e; omega)), h.lF, h.lM, h.ne, h.hD⟩
/-- A cell of the file's struct is stored. -/
theorem NS.set (h : NS w0 w F M R A l fr) (i : Nat) (x : Value) : NS w0 (w.setCell ⟨F, i, none⟩ x) F M R A l (fr.set i x) := by
  have C := (Chg.refl (· = F) w).setCell ⟨F, i, none⟩ x (.inl rfl)
  obtain ⟨p, hp⟩ := h.r
  refine ⟨⟨p, hp.chg C (fun e => h.ne e.symm) (fun k hk e => by have := h.hD k hk; have := h.lF; omega)⟩, ?_, h.b.trans (C.below h.b.size (fun k hk e => by have := h.lF; omega)), h.lF, h.lM, h.ne, h.hD⟩
  rw [heap_setCell_same w F i _ _ _ h.f, List.setIfInBounds_toArray]
end
/-- The reader keeps its place. -/
theorem NS.rdrS {S : Nat → Prop} {w0 w w' : World} {F M R : Nat} {A : Option Addr} {l : List UInt8} {fr : List Value} {p : Nat} (h : NS w0 w F M R A l fr) (hr : Rdr w (secV M) M (DR R A) l p) (hc : Chg S w w') (hM : ¬ S M) (hS : ∀ k, S k → w0.heap.size ≤ k) : Rdr w' (secV M) M (DR R A) l p :=
  hr.chg hc hM (fun k hk e => by have := h.hD k hk; have := hS k e; omega)
theorem NS.rdrF {w0 w : World} {F M R : Nat} {A : Option Addr} {l : List UInt8} {fr : List Value} {p : Nat} (h : NS w0 w F M R A l fr) (hr : Rdr w (secV M) M (DR R A) l p) (i : Nat) (x : Value) : Rdr (w.setCell ⟨F, i, none⟩ x) (secV M) M (DR R A) l p :=
  h.rdrS hr ((Chg.refl (· = F) w).setCell ⟨F, i, none⟩ x (.inl rfl)) (fun e => h.ne e.symm) (fun k e => by have e' : k = F := e; have := h.lF; omega)
/-- Ten cells at a row's head are stored. -/
theorem row10 (v0 v1 v2 v3 v4 v5 v6 v7 v8 v9 u0 u1 u2 u3 u4 u5 u6 u7 u8 u9 z0 z1 z2 : Value) (b : Nat) (w : World) (T : TypeId) (h : w.heap[b]? = some (.cells ([u0, u1, u2, u3, u4, u5, u6, u7, u8, u9, z0, z1, z2] : List Value).toArray T (0, 0))) :
    ((((((((((w.setCell ⟨b, 0, none⟩ v0).setCell ⟨b, 1, none⟩ v1).setCell ⟨b, 2, none⟩ v2).setCell ⟨b, 3, none⟩ v3).setCell ⟨b, 4, none⟩ v4).setCell ⟨b, 5, none⟩ v5).setCell ⟨b, 6, none⟩ v6).setCell ⟨b, 7, none⟩ v7).setCell ⟨b, 8, none⟩ v8).setCell ⟨b, 9, none⟩ v9).heap[b]? = some (.cells ([v0, v1, v2, v3, v4, v5, v6, v7, v8, v9, z0, z1, z2] : List Value).toArray T (0, 0)) := by
  have h0 := heap_setCell_same _ b 0 _ _ v0 h
  rw [List.setIfInBounds_toArray] at h0
  have h1 := heap_setCell_same _ b 1 _ _ v1 h0
  rw [List.setIfInBounds_toArray] at h1
  have h2 := heap_setCell_same _ b 2 _ _ v2 h1
  rw [List.setIfInBounds_toArray] at h2
  have h3 := heap_setCell_same _ b 3 _ _ v3 h2
  rw [List.setIfInBounds_toArray] at h3
  have h4 := heap_setCell_same _ b 4 _ _ v4 h3
  rw [List.setIfInBounds_toArray] at h4
  have h5 := heap_setCell_same _ b 5 _ _ v5 h4
  rw [List.setIfInBounds_toArray] at h5
  have h6 := heap_setCell_same _ b 6 _ _ v6 h5
  rw [List.setIfInBounds_toArray] at h6
  have h7 := heap_setCell_same _ b 7 _ _ v7 h6
  rw [List.setIfInBounds_toArray] at h7
  have h8 := heap_setCell_same _ b 8 _ _ v8 h7
  rw [List.setIfInBounds_toArray] at h8
  have h9 := heap_setCell_same _ b 9 _ _ v9 h8
  rw [List.setIfInBounds_toArray] at h9
  exact h9
theorem chg10 (v0 v1 v2 v3 v4 v5 v6 v7 v8 v9 : Value) (b : Nat) (w : World) : Chg (· = b) w ((((((((((w.setCell ⟨b, 0, none⟩ v0).setCell ⟨b, 1, none⟩ v1).setCell ⟨b, 2, none⟩ v2).setCell ⟨b, 3, none⟩ v3).setCell ⟨b, 4, none⟩ v4).setCell ⟨b, 5, none⟩ v5).setCell ⟨b, 6, none⟩ v6).setCell ⟨b, 7, none⟩ v7).setCell ⟨b, 8, none⟩ v8).setCell ⟨b, 9, none⟩ v9) :=
  ((((((((((Chg.refl (· = b) w).setCell ⟨b, 0, none⟩ v0 (.inl rfl)).setCell ⟨b, 1, none⟩ v1 (.inl rfl)).setCell ⟨b, 2, none⟩ v2 (.inl rfl)).setCell ⟨b, 3, none⟩ v3 (.inl rfl)).setCell ⟨b, 4, none⟩ v4 (.inl rfl)).setCell ⟨b, 5, none⟩ v5 (.inl rfl)).setCell ⟨b, 6, none⟩ v6 (.inl rfl)).setCell ⟨b, 7, none⟩ v7 (.inl rfl)).setCell ⟨b, 8, none⟩ v8 (.inl rfl)).setCell ⟨b, 9, none⟩ v9 (.inl rfl)
/-- The text of names is there, apart from what the call writes. -/
structure TX (w : World) (F M : Nat) (T : Option Addr) (t : List UInt8) : Prop where
  rb : RB w T t
  at_ : t ≠ [] → ∀ a, T = some a → a.block ≠ F ∧ a.block ≠ M ∧ a.block < w.heap.size
theorem TX.chgS {S : Nat → Prop} {w w' : World} {F M : Nat} {T : Option Addr} {t : List UInt8} (h : TX w F M T t) (hc : Chg S w w') (hS : ∀ k, S k → k = F ∨ k = M ∨ w.heap.size ≤ k) : TX w' F M T t := by
  by_cases ht : t = []
  · subst ht
    exact ⟨RB.nil _ _, fun h => absurd rfl h⟩
  · refine ⟨h.rb.chg hc (fun a ha e => ?_), fun _ a ha => ?_⟩
    · obtain ⟨h2, h3, h4⟩ := h.at_ ht a ha
      rcases hS _ e with e | e | e
      · exact h2 e
      · exact h3 e
      · omega
    · obtain ⟨h2, h3, h4⟩ := h.at_ ht a ha
      exact ⟨h2, h3, Nat.lt_of_lt_of_le h4 hc.size⟩
theorem TX.later {w w' : World} {F M : Nat} {T : Option Addr} {t : List UInt8} (h : TX w F M T t) (hb : Below w.heap.size w w') : TX w' F M T t :=
  h.chgS (S := fun k => w.heap.size ≤ k) (Chg.of_below hb (fun _ _ h => h)) (fun k h => .inr (.inr h))
theorem TX.new {w w' : World} {F M : Nat} {T : Option Addr} {t : List UInt8} (hr : RB w' T t) (hn : ∀ a, T = some a → w.heap.size ≤ a.block) (hF : F < w.heap.size) (hM : M < w.heap.size) : TX w' F M T t :=
  ⟨hr, fun ht a ha => by
    have h0 := hn a ha
    have hp : 0 < t.length := List.length_pos_iff.2 ht
    obtain ⟨b, o, e⟩ := hr.addr hp
    rw [e] at hr
    have h2 := hr.lt hp
    rw [ha] at e
    simp only [Option.some.injEq] at e
    subst e
    exact ⟨by have h0' : w.heap.size ≤ b := h0; show b ≠ F; omega, by have h0' : w.heap.size ≤ b := h0; show b ≠ M; omega, h2⟩⟩
/-- The symbols that were read are there, behind the file's block and the section's. -/
structure CO (w0 w : World) (F M : Nat) (v : Value) (n : Nat) (vs : List Value) : Prop where
  own : ∃ B, w.ownsRow B 99 13 v n vs ∧ F < B ∧ M < B ∧ w0.heap.size ≤ B
theorem CO.chgS {S : Nat → Prop} {w0 w w' : World} {F M : Nat} {v : Value} {n : Nat} {vs : List Value} (h : CO w0 w F M v n vs) (hc : Chg S w w') (hS : ∀ k, S k → k = F ∨ k = M ∨ w.heap.size ≤ k) : CO w0 w' F M v n vs := by
  obtain ⟨B, h1, h2, h3, h4⟩ := h.own
  exact ⟨B, owns_chg h1 hc (fun k hk e => by
    have := h1.lt k hk
    rcases hS k e with e | e | e <;> omega), h2, h3, h4⟩
theorem CO.later {w0 w w' : World} {F M : Nat} {v : Value} {n : Nat} {vs : List Value} (h : CO w0 w F M v n vs) (hb : Below w.heap.size w w') : CO w0 w' F M v n vs :=
  h.chgS (S := fun k => w.heap.size ≤ k) (Chg.of_below hb (fun _ _ h => h)) (fun k h => .inr (.inr h))

/-- Another block of the call's own is written. -/
theorem TX.other {w w' : World} {F M G : Nat} {T : Option Addr} {t : List UInt8} (h : TX w F M T t) (hc : Chg (· = G) w w') (hG : t ≠ [] → ∀ a, T = some a → a.block ≠ G) : TX w' F M T t := by
  by_cases ht : t = []
  · subst ht
    exact ⟨RB.nil _ _, fun h => absurd rfl h⟩
  · exact ⟨h.rb.chg hc (fun a ha e => hG ht a ha e), fun _ a ha => by
      obtain ⟨h2, h3, h4⟩ := h.at_ ht a ha
      exact ⟨h2, h3, Nat.lt_of_lt_of_le h4 hc.size⟩⟩
theorem CO.keeps {e : TypeId} {w0 w w' : World} {F M : Nat} {v : Value} {n : Nat} {vs : List Value} (h : CO w0 w F M v n vs) (hk : Keeps e w w') (hne : 99 ≠ e) : CO w0 w' F M v n vs := by
  obtain ⟨B, h1, h2⟩ := h.own
  exact ⟨B, owns_keeps h1 hk hne, h2⟩
theorem set_push (p : Nat → Value) (z : Value) (bs : List Nat) (S n : Nat) (h : bs.length < n) : (bs.map p ++ List.replicate (n - bs.length) z).set bs.length (p S) = (bs ++ [S]).map p ++ List.replicate (n - (bs.length + 1)) z := by
  rw [List.set_append_right _ _ (by simp), List.length_map, Nat.sub_self, show n - bs.length = (n - (bs.length + 1)) + 1 by omega, List.replicate_succ, List.set_cons_zero, List.map_append, List.append_assoc]
  rfl
/-- A section that has been read: its name, where its relocations stand. -/
def SecAt (w : World) (S : Nat) (name : List UInt8) (v4 v6 : Nat) : Prop :=
  ∃ x1 x2 x3 x4 x6 x8 x9 x10 x11 x12 : Value, w.heap[S]? = some (.cells ([.string ⟨name.toArray⟩, x1, x2, x3, x4, .int .u32 v4, x6, .int .u16 v6, x8, x9, x10, x11, x12] : List Value).toArray 133 (0, 0))
/-- The sections that have been read: their blocks, one a name. -/
structure SECS (w0 w : World) (F M G : Nat) (l : List UInt8) (names : List (List UInt8)) (bs : List Nat) : Prop where
  len : bs.length ≤ names.length
  sec : ∀ (k : Nat) (S : Nat) (name : List UInt8), bs[k]? = some S → names[k]? = some name → ∃ v4 v6 : Nat, SecAt w S name v4 v6 ∧ v4 < 4294967296 ∧ v6 < 65536 ∧ (v6 ≠ 0 → v4 + 10 * v6 ≤ l.length)
  at_ : ∀ S ∈ bs, w0.heap.size ≤ S ∧ S < w.heap.size ∧ S ≠ F ∧ S ≠ M ∧ S ≠ G
theorem SecAt.chg {P : Nat → Prop} {w w' : World} {S : Nat} {name : List UInt8} {v4 v6 : Nat} (h : SecAt w S name v4 v6) (hc : Chg P w w') (hS : ¬ P S) : SecAt w' S name v4 v6 := by
  obtain ⟨x1, x2, x3, x4, x6, x8, x9, x10, x11, x12, h⟩ := h
  exact ⟨x1, x2, x3, x4, x6, x8, x9, x10, x11, x12, hc.row h hS⟩
theorem SECS.chg {P : Nat → Prop} {w0 w w' : World} {F M G : Nat} {l : List UInt8} {names : List (List UInt8)} {bs : List Nat} (h : SECS w0 w F M G l names bs) (hc : Chg P w w') (hP : ∀ k, P k → k = F ∨ k = M ∨ k = G ∨ w.heap.size ≤ k) : SECS w0 w' F M G l names bs :=
  ⟨h.len, fun k S name hS hn => by
    obtain ⟨v4, v6, h1, h2⟩ := h.sec k S name hS hn
    obtain ⟨_, h3, h4, h5, h6⟩ := h.at_ S (List.mem_of_getElem? hS)
    exact ⟨v4, v6, h1.chg hc (fun e => by rcases hP S e with e | e | e | e <;> omega), h2⟩, fun S hS => by
    obtain ⟨a, b, c⟩ := h.at_ S hS
    exact ⟨a, Nat.lt_of_lt_of_le b hc.size, c⟩⟩
theorem SECS.push {w0 w : World} {F M G : Nat} {l : List UInt8} {names : List (List UInt8)} {bs : List Nat} (h : SECS w0 w F M G l names bs) {S : Nat} {name : List UInt8} {v4 v6 : Nat} (hn : names[bs.length]? = some name) (hs : SecAt w S name v4 v6) (h4 : v4 < 4294967296) (h6 : v6 < 65536) (hr : v6 ≠ 0 → v4 + 10 * v6 ≤ l.length) (h0 : w0.heap.size ≤ S) (hF : S ≠ F) (hM : S ≠ M) (hG : S ≠ G) : SECS w0 w F M G l names (bs ++ [S]) := by
  have hlt : S < w.heap.size := by
    obtain ⟨x1, x2, x3, x4, x6, x8, x9, x10, x11, x12, g⟩ := hs
    exact (Array.getElem?_eq_some_iff.1 g).1
  refine ⟨by have := (List.getElem?_eq_some_iff.1 hn).1; simp; omega, fun k S' nm hS' hnm => ?_, fun S' hS' => ?_⟩
  · by_cases hk : k < bs.length
    · rw [List.getElem?_append_left hk] at hS'
      exact h.sec k S' nm hS' hnm
    · rw [List.getElem?_append_right (by omega)] at hS'
      have hk0 : k - bs.length = 0 := by
        have := (List.getElem?_eq_some_iff.1 hS').1
        simp at this
        omega
      obtain rfl : k = bs.length := by omega
      rw [Nat.sub_self] at hS'
      obtain rfl : S = S' := by simpa using hS'
      rw [hn] at hnm
      obtain rfl := Option.some.inj hnm
      exact ⟨v4, v6, hs, h4, h6, hr⟩
  · rcases List.mem_append.1 hS' with h' | h'
    · exact h.at_ S' h'
    · obtain rfl := List.mem_singleton.1 h'
      exact ⟨h0, hlt, hF, hM, hG⟩
/-- One section's relocations are stored. -/
theorem SECS.poke {w0 w : World} {F M G : Nat} {l : List UInt8} {names : List (List UInt8)} {bs : List Nat} (h : SECS w0 w F M G l names bs) {S0 : Nat} (x : Value) : SECS w0 (w.setCell ⟨S0, 10, none⟩ x) F M G l names bs := by
  have C := (Chg.refl (· = S0) w).setCell ⟨S0, 10, none⟩ x (.inl rfl)
  refine ⟨h.len, fun k S name hS hn => ?_, fun S hS => by obtain ⟨a, b, c⟩ := h.at_ S hS; exact ⟨a, Nat.lt_of_lt_of_le b C.size, c⟩⟩
  obtain ⟨v4, v6, h1, h2⟩ := h.sec k S name hS hn
  refine ⟨v4, v6, ?_, h2⟩
  by_cases e : S = S0
  · subst e
    obtain ⟨x1, x2, x3, x4, x6, x8, x9, x10, x11, x12, g⟩ := h1
    exact ⟨x1, x2, x3, x4, x6, x8, x9, x, x11, x12, by rw [heap_setCell_same w S 10 _ _ _ g]; rfl⟩
  · exact h1.chg C e
/-- What NewFile answers. -/
def FilePost (w : World) (l : List UInt8) (f : FL) (e : Ending) (w' : World) : Prop :=
  ∃ (F M G : Nat) (hd : List Value) (ov sy cv tv : Value) (bs : List Nat), e = .returned (.tuple #[.pointer (some ⟨F, 0, none⟩), .nilIface]) ∧ hd.length = 7 ∧
    Hid (w'.heap[F]? = some (.cells (hd ++ ([ov, .slice (some ⟨G, 0, none⟩) f.names.length f.names.length, sy, cv, tv] : List Value)).toArray 94 (0, 0))) ∧
    Hid (w'.heap[G]? = some (.cells ((bs.map fun S => Value.pointer (some ⟨S, 0, none⟩))).toArray 128 (0, 0))) ∧ Hid (bs.length = f.names.length) ∧
    Hid (SECS w w' F M G l f.names bs) ∧ Hid (w'.ownsRow w.heap.size 99 13 cv f.n (symRow (l.drop f.place) f.n)) ∧ Below w.heap.size w w'

open Go Go.RowKit
attribute [local go_sem ↓] Go.wp_at_zero Go.wp_at_succ

set_option maxHeartbeats 40000000 in
theorem newFile_any (R n c : Nat) (A : Option Addr) (l : List UInt8) (f : FL) (w : World) (hN : Hid (n = l.length)) (hnc : n ≤ c) (hR : Hid (w.heap[R]? = some (.cells #[.slice A n c, .int .i64 0, .int .i64 (-1)] 141 (0, 0)))) (hA : Hid (RB w A l)) (hF : Hid (FileOk l f)) :
    Calls Tryz.prog 28 #[.iface 85 (.pointer (some ⟨R, 0, none⟩))] w (FilePost w l f) := by
  have hn1 : ∀ w, (nilAhead 338 85 (.pointer (some ⟨R, 0, none⟩)) "ReadAt").run Tryz.prog w = .ok (some false) w := fun w => nilReadAt _ ⟨R, 0, none⟩ w
  have hm1 : ∀ w, (method 338 85 (.pointer (some ⟨R, 0, none⟩)) "ReadAt").run Tryz.prog w = .ok (108, .pointer (some ⟨R, 0, none⟩)) w := fun w => methodReadAt _ ⟨R, 0, none⟩ w
  have hb96 : 96 ≤ n := by rw [hN.out]; exact hF.out.big
  have hb5 : n ≤ 100000 := by rw [hN.out]; exact hF.out.small
  go_enter Tryz.func28, Tryz.ntmps28
  go_wp2_with fail
  refine (newWhole R _).mono ?_
  rintro e w' ⟨rfl, rfl⟩
  go_upto_region 4 with fail
  have hD : ∀ k, DR R A k → k < w.heap.size := fun k hk => by
    rcases hk with rfl | ⟨a, ha, rfl⟩
    · exact (Array.getElem?_eq_some_iff.1 hR.out).1
    · subst ha
      obtain ⟨b, o, e⟩ := hA.out.addr (by rw [← hN.out]; omega)
      have hA' := hA.out
      rw [e] at hA'
      have := hA'.lt (by rw [← hN.out]; omega)
      simp only [Option.some.injEq] at e
      rw [e]
      exact this
  obtain ⟨w3, e3⟩ : ∃ w3, (((w.alloc (.cells #[.int .u16 0, .int .u16 0, .int .u32 0, .int .u32 0, .int .u32 0, .int .u16 0, .int .u16 0, .nilIface, .slice none 0 0, .slice none 0 0, .slice none 0 0, .slice none 0 0] 94)).alloc (.cells (secRow R 0).toArray 147)).alloc (.cells Tryz.zeroCells105 105)) = w3 := ⟨_, rfl⟩
  have z3 : w3.heap.size = w.heap.size + 3 := by rw [← e3]; simp
  have b3 : Below w.heap.size w w3 := by rw [← e3]; exact (((Below.refl _ w).alloc (Nat.le_refl _) _).alloc (by simp) _).alloc (by simp; omega) _
  have gD : Hid (w3.heap[w.heap.size + 1 + 1]? = some (.cells Tryz.zeroCells105.toList.toArray 105 (0, 0))) := Lib.hid (by
    have : w.heap.size + 1 + 1 = ((w.alloc (.cells #[.int .u16 0, .int .u16 0, .int .u32 0, .int .u32 0, .int .u32 0, .int .u16 0, .int .u16 0, .nilIface, .slice none 0 0, .slice none 0 0, .slice none 0 0, .slice none 0 0] 94)).alloc (.cells (secRow R 0).toArray 147)).heap.size := by simp
    rw [this, ← e3, Array.toArray_toList]
    exact heap_alloc_new _ _)
  have gM : w3.heap[w.heap.size + 1]? = some (.cells (secRow R 0).toArray 147 (0, 0)) := by
    have : w.heap.size + 1 = (w.alloc (.cells #[.int .u16 0, .int .u16 0, .int .u32 0, .int .u32 0, .int .u32 0, .int .u16 0, .int .u16 0, .nilIface, .slice none 0 0, .slice none 0 0, .slice none 0 0, .slice none 0 0] 94)).heap.size := by simp
    rw [this, ← e3, heap_alloc_old _ _ (by simp)]
    exact heap_alloc_new _ _
  have gF : w3.heap[w.heap.size]? = some (.cells ([.int .u16 0, .int .u16 0, .int .u32 0, .int .u32 0, .int .u32 0, .int .u16 0, .int .u16 0, .nilIface, .slice none 0 0, .slice none 0 0, .slice none 0 0, .slice none 0 0] : List Value).toArray 94 (0, 0)) := by
    rw [← e3, heap_alloc_old _ _ (by simp; omega), heap_alloc_old _ _ (by simp)]
    exact heap_alloc_new _ _
  have hR3 : Hid (w3.heap[R]? = some (.cells #[.slice A n c, .int .i64 0, .int .i64 (-1)] 141 (0, 0))) := Lib.hid ((b3.block R (hD R (.inl rfl))).trans hR.out)
  have hA3 : Hid (RB w3 A l) := Lib.hid (hA.out.later b3)
  have N3 : Hid (NS w w3 w.heap.size (w.heap.size + 1) R A l [.int .u16 0, .int .u16 0, .int .u32 0, .int .u32 0, .int .u32 0, .int .u16 0, .int .u16 0, .nilIface, .slice none 0 0, .slice none 0 0, .slice none 0 0, .slice none 0 0]) := Lib.hid (by
    refine ⟨⟨0, ?_, by omega, by omega, fun k hk => ⟨by have := hD k hk; omega, by have := hD k hk; omega⟩, .inr ⟨R, A, n, c, _, _, rfl, hN.out, hnc, .inl rfl, gM, hR3.out, hA3.out, fun a ha => .inr ⟨a, ha, rfl⟩⟩⟩, gF, b3, Nat.le_refl _, by omega, by omega, hD⟩
    rw [← hN.out]
    omega)
  have CALL : Hid (∀ q, Calls Tryz.prog 108 #[.pointer (some ⟨R, 0, none⟩), .slice (some ⟨w.heap.size + 1 + 1, 0, none⟩) 96 96, .int .i64 0] (w3.drewN q) fun e w' => e = .returned (.tuple #[.int .i64 96, .nilIface]) ∧
      Hid (w'.heap[w.heap.size + 1 + 1]? = some (.cells (((l.drop 0).take 96).map bv).toArray 105 (0, 0))) ∧ Chg (· = w.heap.size + 1 + 1) w3 w' ∧ w'.heap.size = w3.heap.size) := Lib.hid (fun q =>
    (bytesReadAt_all R (w.heap.size + 1 + 1) 0 96 96 A l n c _ _ 105 Tryz.zeroCells105.toList (w3.drewN q) hN (by omega) (by omega) (by omega) hnc (by exact hR3) (Lib.hid (hA3.out.drewN q)) (by exact gD) (Lib.hid (by kernel_rfl))).mono fun e w' ⟨h1, h2, h3, h4⟩ => ⟨h1, h2, ⟨h3.os, h3.tape, h3.output, h3.size, h3.block⟩, h4⟩)
  replace b3 := Lib.hid b3
  replace hD := Lib.hid hD
  replace z3 := Lib.hid z3
  rw [e3]
  clear e3 gD gM gF
  go_region_held3 (fun w' => True) (trivial) (first | (go_at_call 108; refine (CALL.out _).mono ?_; rintro e w4 ⟨rfl, g4, C4, z4⟩))
  have N4 : Hid (NS w w4 w.heap.size (w.heap.size + 1) R A l [.int .u16 0, .int .u16 0, .int .u32 0, .int .u32 0, .int .u32 0, .int .u16 0, .int .u16 0, .nilIface, .slice none 0 0, .slice none 0 0, .slice none 0 0, .slice none 0 0]) := Lib.hid (N3.out.chgS C4 (by show ¬ w.heap.size = _; omega) (by show ¬ w.heap.size + 1 = _; omega) (fun k e => by have e' : k = w.heap.size + 1 + 1 := e; omega))
  have hA4 : Hid (RB w4 A l) := Lib.hid (hA3.out.chg C4 (fun a ha e => by have := hD.out a.block (.inr ⟨a, ha, rfl⟩); have e' : a.block = w.heap.size + 1 + 1 := e; omega))
  have hR4 : Hid (w4.heap[R]? = some (.cells #[.slice A n c, .int .i64 0, .int .i64 (-1)] 141 (0, 0))) := Lib.hid (C4.row hR3.out (fun e => by have := hD.out R (.inl rfl); have e' : R = w.heap.size + 1 + 1 := e; omega))
  have hz4 : Hid (w4.heap.size = w.heap.size + 3) := Lib.hid (by rw [z4, z3.out])
  obtain ⟨x, y, r0, hl, hxy⟩ : ∃ x y r, l = x :: y :: r ∧ ((f.base = 0 ∧ ¬ (x.toNat = 77 ∧ y.toNat = 90)) ∨ (f.base ≠ 0 ∧ x.toNat = 77 ∧ y.toNat = 90)) := by
    rcases hF.out.dos with ⟨h0, x, y, r, hl, hxy⟩ | ⟨s, r, -, hb, -, hl, -, -⟩
    · exact ⟨x, y, r, hl, .inl ⟨h0, hxy⟩⟩
    · exact ⟨77, 90, r, hl, .inr ⟨by omega, rfl, rfl⟩⟩
  have c0 : w4.cell? ⟨w.heap.size + 1 + 1, 0, none⟩ = some (.int .u8 (x.toNat : Int)) := World.cell?_of_row g4.out 0 _ (by rw [hl]; rfl)
  have c1 : w4.cell? ⟨w.heap.size + 1 + 1, 1, none⟩ = some (.int .u8 (y.toNat : Int)) := World.cell?_of_row g4.out 1 _ (by rw [hl]; rfl)
  clear hl CALL C4 z4 N3 hA3 hR3 hA hR z3 b3
  go_upto_region 8 with fail
  go_cut [47] from 40 to 47 (fun c47 wx => c47 = .bool (decide (f.base ≠ 0)) ∧ w4 = wx)
  case first =>
    rcases hxy with ⟨hb, hxy⟩ | ⟨hb, hx, hy⟩
    · have hd : decide (f.base ≠ 0) = false := by simp [hb]
      by_cases hx : x.toNat = 77
      · have hx' : ((x.toNat : Int) == 77) = true := by rw [beq_iff_eq]; omega
        have hy' : ((y.toNat : Int) == 90) = false := by rw [beq_eq_false_iff_ne]; omega
        clear hx hxy hb
        go_wp2_with fail
        go_meet
        case rel => exact ⟨by rw [hd], rfl⟩
      · have hx' : ((x.toNat : Int) == 77) = false := by rw [beq_eq_false_iff_ne]; omega
        clear hx hxy hb
        go_wp2_with fail
        go_meet
        case rel => exact ⟨by rw [hd], rfl⟩
    · have hd : decide (f.base ≠ 0) = true := by simp [hb]
      have hx' : ((x.toNat : Int) == 77) = true := by rw [beq_iff_eq]; omega
      have hy' : ((y.toNat : Int) == 90) = true := by rw [beq_iff_eq]; omega
      clear hx hy hb
      go_wp2_with fail
      go_meet
      case rel => exact ⟨by rw [hd], rfl⟩
  case rest =>
    obtain ⟨rfl, rfl⟩ := hcut
    clear hxy c0 c1
    go_upto_if 47 with fail
    go_cut [9, 10, 11, 12, 13] from 47 to 85 (fun c9 c10 c11 c12 c13 wx => c9 = .int .i64 (f.base : Int) ∧ Hid (NS w wx w.heap.size (w.heap.size + 1) R A l [.int .u16 0, .int .u16 0, .int .u32 0, .int .u32 0, .int .u32 0, .int .u16 0, .int .u16 0, .nilIface, .slice none 0 0, .slice none 0 0, .slice none 0 0, .slice none 0 0]))
    case first =>
      --[S
      by_cases hb : f.base = 0
      · have hd : decide (f.base ≠ 0) = false := by simp [hb]
        rw [hd]
        clear hd
        go_wp2_with fail
        go_meet
        case rel => exact ⟨by rw [hb]; rfl, N4⟩
      · have hd : decide (f.base ≠ 0) = true := by simp [hb]
        rw [hd]
        obtain ⟨s, hs64, hbs, hs4, hnum, hsig⟩ : ∃ s, 64 ≤ s ∧ Hid (f.base = s + 4) ∧ s + 4 ≤ n ∧ Hid (num false ((l.drop 60).take 4) = s) ∧ Hid ((l.drop s).take 4 = [80, 69, 0, 0]) := by
          rcases hF.out.dos with ⟨h0, -⟩ | ⟨s, r, h64, h1, h2, h3, h4, h5⟩
          · exact absurd h0 hb
          · exact ⟨s, h64, Lib.hid h1, by rw [hN.out]; exact h2, Lib.hid h4, Lib.hid h5⟩
        have RBD : Hid (RB w4 (some ⟨w.heap.size + 1 + 1, 60, none⟩) ((((l.drop 0).take 96).drop 60))) := Lib.hid (by
          have := (RB.of_row g4.out).drop (c := 96) (by simp; omega) 60
          rwa [slA_some _ _ _ _ (by omega), Nat.zero_add] at this)
        have hl36 : Hid (4 ≤ (((l.drop 0).take 96).drop 60).length) := Lib.hid (by have := hN.out; simp; omega)
        have hnum' : Hid (num false ((((l.drop 0).take 96).drop 60).take 4) = s) := Lib.hid (by
          rw [← hnum.out, List.drop_zero, List.drop_take, List.take_take]
          rfl)
        clear hd hb
        go_wp2_with fail
        refine (u32_RB false (w.heap.size + 1 + 1) 60 36 36 (((l.drop 0).take 96).drop 60) w4 RBD.out hl36.out (by omega) (by omega)).mono ?_
        rintro e w' ⟨rfl, q, rfl⟩
        rw [hnum'.out]
        have Nq : Hid (NS w (w4.drewN q) w.heap.size (w.heap.size + 1) R A l [.int .u16 0, .int .u16 0, .int .u32 0, .int .u32 0, .int .u32 0, .int .u16 0, .int .u16 0, .nilIface, .slice none 0 0, .slice none 0 0, .slice none 0 0, .slice none 0 0]) := Lib.hid (N4.out.later (below_drewN (Below.refl _ w4) q))
        clear RBD hl36 hnum' N4 g4
        go_upto_region 11 with fail
        obtain ⟨w5, e5⟩ : ∃ w5, (w4.drewN q).alloc (.cells #[.int .u8 0, .int .u8 0, .int .u8 0, .int .u8 0] 110) = w5 := ⟨_, rfl⟩
        have b5 : Below w4.heap.size w4 w5 := by rw [← e5]; exact (below_drewN (Below.refl _ w4) q).alloc (Nat.le_refl _) _
        have N5 : Hid (NS w w5 w.heap.size (w.heap.size + 1) R A l [.int .u16 0, .int .u16 0, .int .u32 0, .int .u32 0, .int .u32 0, .int .u16 0, .int .u16 0, .nilIface, .slice none 0 0, .slice none 0 0, .slice none 0 0, .slice none 0 0]) := Lib.hid (by rw [← e5]; exact Nq.out.later ((Below.refl _ _).alloc (Nat.le_refl _) _))
        have hA5 : Hid (RB w5 A l) := Lib.hid (hA4.out.later b5)
        have hR5 : Hid (w5.heap[R]? = some (.cells #[.slice A n c, .int .i64 0, .int .i64 (-1)] 141 (0, 0))) := row_later b5 hR4
        have gS : Hid (w5.heap[w4.heap.size]? = some (.cells ([.int .u8 0, .int .u8 0, .int .u8 0, .int .u8 0] : List Value).toArray 110 (0, 0))) := Lib.hid (by rw [← e5]; exact heap_alloc_new (w4.drewN q) _)
        have CALL : Hid (∀ q, Calls Tryz.prog 108 #[.pointer (some ⟨R, 0, none⟩), .slice (some ⟨w4.heap.size, 0, none⟩) 4 4, .int .i64 s] (w5.drewN q) fun e w' => e = .returned (.tuple #[.int .i64 4, .nilIface]) ∧
          Hid (w'.heap[w4.heap.size]? = some (.cells (((l.drop s).take 4).map bv).toArray 110 (0, 0))) ∧ Chg (· = w4.heap.size) w5 w' ∧ w'.heap.size = w5.heap.size) := Lib.hid (fun q =>
          (bytesReadAt_all R w4.heap.size s 4 4 A l n c _ _ 110 [.int .u8 0, .int .u8 0, .int .u8 0, .int .u8 0] (w5.drewN q) hN (by omega) (by omega) (by omega) hnc (by exact hR5) (Lib.hid (hA5.out.drewN q)) (by exact gS) (Lib.hid rfl)).mono fun e w' ⟨h1, h2, h3, h4⟩ => ⟨h1, h2, ⟨h3.os, h3.tape, h3.output, h3.size, h3.block⟩, h4⟩)
        rw [e5]
        clear e5 b5 Nq hA5 hR5 gS
        go_region_held3 (fun w' => True) (trivial) (first | (go_at_call 108; refine (CALL.out _).mono ?_; rintro e w6 ⟨rfl, g6, C6, z6⟩))
        rw [hsig.out] at g6
        have N6 : Hid (NS w w6 w.heap.size (w.heap.size + 1) R A l [.int .u16 0, .int .u16 0, .int .u32 0, .int .u32 0, .int .u32 0, .int .u16 0, .int .u16 0, .nilIface, .slice none 0 0, .slice none 0 0, .slice none 0 0, .slice none 0 0]) := Lib.hid (N5.out.chgS C6 (by show ¬ w.heap.size = _; have := hz4.out; omega) (by show ¬ w.heap.size + 1 = _; have := hz4.out; omega) (fun k e => by have e' : k = w4.heap.size := e; have := hz4.out; omega))
        have k0 : w6.cell? ⟨w4.heap.size, 0, none⟩ = some (.int .u8 80) := World.cell?_of_row g6.out 0 _ rfl
        have k1 : w6.cell? ⟨w4.heap.size, 1, none⟩ = some (.int .u8 69) := World.cell?_of_row g6.out 1 _ rfl
        have k2 : w6.cell? ⟨w4.heap.size, 2, none⟩ = some (.int .u8 0) := World.cell?_of_row g6.out 2 _ rfl
        have k3 : w6.cell? ⟨w4.heap.size, 3, none⟩ = some (.int .u8 0) := World.cell?_of_row g6.out 3 _ rfl
        clear CALL C6 z6 N5 g6 hA4 hR4 hz4 hn1 hm1
        go_wp2_with fail
        go_meet
        case rel => exact ⟨by rw [hbs.out, Int.natCast_add]; rfl, N6⟩
      --]S
    case rest =>
      obtain ⟨rfl, N5⟩ := hcut
      clear N4 g4 hA4 hR4 hz4 hn1 hm1
      have hhl := hF.out.hl
      have hbl : f.base ≤ 100000 := by have := hN.out; omega
      have hh20 : Hid (f.base + 20 ≤ l.length) := Lib.hid (by omega)
      obtain ⟨p0, hp0⟩ := N5.out.r
      have R5 := Lib.hid hp0
      clear hp0 hhl
      go_wp2_with fail
      refine (secSeek (w.heap.size + 1) p0 f.base (DR R A) l wc (by omega) R5).mono ?_
      rintro e w6 ⟨rfl, R6, C6, z6⟩
      have N6 := Lib.hid (N5.out.chg C6 (Lib.hid ⟨_, R6.out⟩))
      have gF6 : Hid (w6.heap[w.heap.size]? = some (.cells (([] : List Value) ++ (([.int .u16 0, .int .u16 0, .int .u32 0, .int .u32 0, .int .u32 0, .int .u16 0, .int .u16 0] : List Value) ++ ([.nilIface, .slice none 0 0, .slice none 0 0, .slice none 0 0, .slice none 0 0] : List Value))).toArray 94 (0, 0))) := Lib.hid N6.out.f
      clear C6 z6 R5 N5
      go_wp2_with fail
      refine (readGFileHeader_all w.heap.size (w.heap.size + 1) [] [.nilIface, .slice none 0 0, .slice none 0 0, .slice none 0 0, .slice none 0 0] 0 (secV (w.heap.size + 1)) (DR R A) l f.base false 94 w6 (Lib.hid rfl) R6 hh20 (by omega) (Lib.hid (fun e => by have := hD.out _ e; omega)) gF6).mono ?_
      rintro e w7 ⟨rfl, R7, V7, C7⟩
      rw [hF.out.hdr] at V7
      have N7 : Hid (NS w w7 w.heap.size (w.heap.size + 1) R A l [.int .u16 f.mach, .int .u16 f.names.length, .int .u32 f.time, .int .u32 f.place, .int .u32 f.n, .int .u16 f.optn, .int .u16 f.flags, .nilIface, .slice none 0 0, .slice none 0 0, .slice none 0 0, .slice none 0 0]) := Lib.hid ⟨⟨_, R7.out⟩, V7.out, N6.out.b.trans (C7.below N6.out.b.size (fun k hk e => by rcases e with e | e <;> omega)), Nat.le_refl _, by omega, by omega, hD.out⟩
      clear C7 V7 R7 R6 gF6 N6
      have f0 := World.cell?_of_row N7.out.f 0 (.int .u16 f.mach) rfl
      go_upto_block 0 with fail
      clear f0
      go_cut [] from 98 to 112 (fun wx => w7 = wx)
      case first =>
        --[M
        have hm := hF.out.mach
        simp only [machL, List.mem_cons, List.not_mem_nil, or_false] at hm
        rcases hm with e | e | e | e | e | e | e | e
        all_goals
          go_wp2_with fail
          go_meet
          case rel => exact rfl
        --]M
      case rest =>
        obtain rfl := hcut
        have hpl := hF.out.plc
        have hn3 := hF.out.n300
        have hp0 := hF.out.pl0
        have hpl2 : f.place + 18 * f.n ≤ 100000 := by have := hN.out; omega
        have hfl : Hid (f.place + 18 * f.n ≤ l.length) := Lib.hid hpl
        clear hpl
        obtain ⟨p1, hp1⟩ := N7.out.r
        have R7 := Lib.hid hp1
        clear hp1
        have f3 : w7.cell? ⟨w.heap.size, 3, none⟩ = some (.int .u32 f.place) := World.cell?_of_row N7.out.f 3 _ rfl
        have f4 : w7.cell? ⟨w.heap.size, 4, none⟩ = some (.int .u32 f.n) := World.cell?_of_row N7.out.f 4 _ rfl
        go_wp2_with fail
        refine (stringTable_some w.heap.size 0 f.place f.n (f.place + 18 * f.n) (w.heap.size + 1) (DR R A) l f.texts p1 w7 R7 (by omega) (by omega) (by omega) (by omega) (Lib.hid (by have := hN.out; omega)) f3 f4 hF.out.txt).mono ?_
        rintro e w8 ⟨⟨TA, tc, rfl, htc, hTA, hTA2⟩, R8, C8⟩
        have N8 := Lib.hid (N7.out.chg C8 R8)
        have T8 : Hid (TX w8 w.heap.size (w.heap.size + 1) TA f.texts) := Lib.hid (TX.new hTA.out hTA2 N7.out.F_lt N7.out.M_lt)
        have c11 := World.cell?_of_row N8.out.f 11 (.slice none 0 0) rfl
        have g11 := frozen_of_row _ w.heap.size 11 _ _ N8.out.f
        clear C8 R8 hTA hTA2 R7 f3 f4 N7
        go_upto_region 34 with fail
        have N9 : Hid (NS w (w8.setCell ⟨w.heap.size, 11, none⟩ (.slice TA f.texts.length tc)) w.heap.size (w.heap.size + 1) R A l [.int .u16 f.mach, .int .u16 f.names.length, .int .u32 f.time, .int .u32 f.place, .int .u32 f.n, .int .u16 f.optn, .int .u16 f.flags, .nilIface, .slice none 0 0, .slice none 0 0, .slice none 0 0, .slice TA f.texts.length tc]) := Lib.hid (N8.out.set 11 (.slice TA f.texts.length tc))
        have T9 := Lib.hid (T8.out.chgS ((Chg.refl (· = w.heap.size) w8).setCell ⟨w.heap.size, 11, none⟩ (.slice TA f.texts.length tc) (.inl rfl)) (fun k e => .inl e))
        obtain ⟨w9, e9⟩ : ∃ w9, w8.setCell ⟨w.heap.size, 11, none⟩ (.slice TA f.texts.length tc) = w9 := ⟨_, rfl⟩
        rw [e9] at N9 T9 ⊢
        clear e9 N8 T8 c11 g11
        have f3 : w9.cell? ⟨w.heap.size, 3, none⟩ = some (.int .u32 f.place) := World.cell?_of_row N9.out.f 3 _ rfl
        have f4 : w9.cell? ⟨w.heap.size, 4, none⟩ = some (.int .u32 f.n) := World.cell?_of_row N9.out.f 4 _ rfl
        go_wp2_with fail
        refine (symsAny w.heap.size 0 f.place f.n (w.heap.size + 1) (DR R A) l w9 (Lib.hid N9.out.r) hp0 (by omega) (by omega) (by omega) f3 f4 hfl (Lib.hid hF.out.fin)).mono ?_
        rintro e w10 ⟨⟨cv, rfl, ownC⟩, R10, C10⟩
        have N10 := Lib.hid (N9.out.chg C10 R10)
        have T10 := Lib.hid (T9.out.chgS C10 (fun k e => .inr (.inl e)))
        have O10 : Hid (CO w w10 w.heap.size (w.heap.size + 1) cv f.n (symRow (l.drop f.place) f.n)) := Lib.hid ⟨⟨_, ownC.out, N9.out.F_lt, N9.out.M_lt, N9.out.b.size⟩⟩
        obtain ⟨VC, cc, rfl, -⟩ := RT.of_owns ownC.out
        have c10 := World.cell?_of_row N10.out.f 10 (.slice none 0 0) rfl
        have g10 := frozen_of_row _ w.heap.size 10 _ _ N10.out.f
        clear C10 R10 ownC f3 f4 N9 T9
        go_upto_region 37 with fail
        have N11 : Hid (NS w (w10.setCell ⟨w.heap.size, 10, none⟩ (.slice VC f.n cc)) w.heap.size (w.heap.size + 1) R A l [.int .u16 f.mach, .int .u16 f.names.length, .int .u32 f.time, .int .u32 f.place, .int .u32 f.n, .int .u16 f.optn, .int .u16 f.flags, .nilIface, .slice none 0 0, .slice none 0 0, .slice VC f.n cc, .slice TA f.texts.length tc]) := Lib.hid (N10.out.set 10 (.slice VC f.n cc))
        have T11 := Lib.hid (T10.out.chgS ((Chg.refl (· = w.heap.size) w10).setCell ⟨w.heap.size, 10, none⟩ (.slice VC f.n cc) (.inl rfl)) (fun k e => .inl e))
        have O11 := Lib.hid (O10.out.chgS ((Chg.refl (· = w.heap.size) w10).setCell ⟨w.heap.size, 10, none⟩ (.slice VC f.n cc) (.inl rfl)) (fun k e => .inl e))
        obtain ⟨w11, e11⟩ : ∃ w11, w10.setCell ⟨w.heap.size, 10, none⟩ (.slice VC f.n cc) = w11 := ⟨_, rfl⟩
        rw [e11] at N11 T11 O11 ⊢
        clear e11 N10 T10 O10 c10 g10
        have k10 : w11.cell? ⟨w.heap.size, 10, none⟩ = some (.slice VC f.n cc) := World.cell?_of_row N11.out.f 10 _ rfl
        have k11 : w11.cell? ⟨w.heap.size, 11, none⟩ = some (.slice TA f.texts.length tc) := World.cell?_of_row N11.out.f 11 _ rfl
        have CALL : Hid (∀ q, Calls Tryz.prog 38 #[.slice VC f.n cc, .slice TA f.texts.length tc] (w11.drewN q) fun e w' => (∃ V k c, e = .returned (.tuple #[.slice V k c, .nilIface])) ∧ Below w11.heap.size w11 w') := Lib.hid (fun q => by
          obtain ⟨B, hB, -⟩ := O11.out.own
          refine (remAny (.slice VC f.n cc) B f.n (l.drop f.place) TA f.texts tc (w11.drewN q) hF.out.n300 (Lib.hid (by exact hB)) (Lib.hid hF.out.sym) (Lib.hid (T11.out.rb.drewN q)) htc (by have := hF.out.txl; omega)).mono ?_
          rintro e w' ⟨he, hb⟩
          exact ⟨he, ⟨hb.os, hb.tape, hb.output, hb.size, hb.block⟩⟩)
        go_upto_region 39 with fail
        go_region_held3 (fun w' => w'.cell? ⟨w.heap.size, 10, none⟩ = some (.slice VC f.n cc) ∧ w'.cell? ⟨w.heap.size, 11, none⟩ = some (.slice TA f.texts.length tc))
          (first | exact ⟨k10, k11⟩ | exact K12.out | exact K13.out | go_keep)
          (first
            | (go_at_call 38; refine (CALL.out _).mono ?_; rintro e w12 ⟨⟨sA, sn, sc, rfl⟩, b12⟩; have N12 := Lib.hid (N11.out.later b12); have T12 := Lib.hid (T11.out.later b12); have O12 := Lib.hid (O11.out.later b12); have K12 : Hid (w12.cell? ⟨w.heap.size, 10, none⟩ = some (.slice VC f.n cc) ∧ w12.cell? ⟨w.heap.size, 11, none⟩ = some (.slice TA f.texts.length tc)) := Lib.hid ⟨World.cell?_of_row N12.out.f 10 _ rfl, World.cell?_of_row N12.out.f 11 _ rfl⟩; have c9 := World.cell?_of_row N12.out.f 9 (.slice none 0 0) rfl; have g9 := frozen_of_row _ w.heap.size 9 _ _ N12.out.f; have M13 := N12.out.set 9 (.slice sA sn sc); have K13 : Hid ((w12.setCell ⟨w.heap.size, 9, none⟩ (.slice sA sn sc)).cell? ⟨w.heap.size, 10, none⟩ = some (.slice VC f.n cc) ∧ (w12.setCell ⟨w.heap.size, 9, none⟩ (.slice sA sn sc)).cell? ⟨w.heap.size, 11, none⟩ = some (.slice TA f.texts.length tc)) := Lib.hid ⟨World.cell?_of_row M13.f 10 _ rfl, World.cell?_of_row M13.f 11 _ rfl⟩; clear M13)
            | fail)
        have N13 : Hid (NS w (w12.setCell ⟨w.heap.size, 9, none⟩ (.slice sA sn sc)) w.heap.size (w.heap.size + 1) R A l [.int .u16 f.mach, .int .u16 f.names.length, .int .u32 f.time, .int .u32 f.place, .int .u32 f.n, .int .u16 f.optn, .int .u16 f.flags, .nilIface, .slice none 0 0, .slice sA sn sc, .slice VC f.n cc, .slice TA f.texts.length tc]) := Lib.hid (N12.out.set 9 (.slice sA sn sc))
        have T13 := Lib.hid (T12.out.chgS ((Chg.refl (· = w.heap.size) w12).setCell ⟨w.heap.size, 9, none⟩ (.slice sA sn sc) (.inl rfl)) (fun k e => .inl e))
        have O13 := Lib.hid (O12.out.chgS ((Chg.refl (· = w.heap.size) w12).setCell ⟨w.heap.size, 9, none⟩ (.slice sA sn sc) (.inl rfl)) (fun k e => .inl e))
        obtain ⟨w13, e13⟩ : ∃ w13, w12.setCell ⟨w.heap.size, 9, none⟩ (.slice sA sn sc) = w13 := ⟨_, rfl⟩
        rw [e13] at N13 T13 O13 ⊢
        clear e13 N12 T12 O12 N11 T11 O11 c9 g9 k10 k11 K12 K13 CALL b12
        obtain ⟨b20, hb20, hb20'⟩ : ∃ b20 : Nat, (f.base : Int) + 20 = (b20 : Int) ∧ Hid (b20 = f.base + 20) := ⟨f.base + 20, by omega, Lib.hid rfl⟩
        obtain ⟨p2, hp2⟩ := N13.out.r
        have R13 := Lib.hid hp2
        clear hp2
        go_wp2_with fail
        refine (secSeek (w.heap.size + 1) p2 b20 (DR R A) l w13 (by have := hb20'.out; omega) R13).mono ?_
        rintro e w14 ⟨rfl, R14, C14, z14⟩
        have N14 := Lib.hid (N13.out.chg C14 (Lib.hid ⟨_, R14.out⟩))
        have T14 := Lib.hid (T13.out.chgS C14 (fun k e => .inr (.inl e)))
        have O14 := Lib.hid (O13.out.chgS C14 (fun k e => .inr (.inl e)))
        clear C14 z14 R13 N13 T13 O13 hb20
        have f5 : w14.cell? ⟨w.heap.size, 5, none⟩ = some (.int .u16 f.optn) := World.cell?_of_row N14.out.f 5 _ rfl
        have hop : Hid (OptOk ((l.drop b20).take f.optn)) := Lib.hid (by rw [hb20'.out]; exact hF.out.opt)
        have hop2 : Hid (b20 + f.optn ≤ l.length) := Lib.hid (by have := hF.out.hl; have := hb20'.out; omega)
        go_wp2_with fail
        refine (optAny (w.heap.size + 1) f.optn b20 (DR R A) l w14 R14 hop hop2).mono ?_
        rintro e w15 ⟨⟨ov, rfl, hov⟩, R15, C15⟩
        have N15 := Lib.hid (N14.out.chg C15 (Lib.hid ⟨_, R15.out⟩))
        have T15 := Lib.hid (T14.out.chgS C15 (fun k e => .inr (.inl e)))
        have O15 := Lib.hid (O14.out.chgS C15 (fun k e => .inr (.inl e)))
        replace hov := Lib.hid hov
        clear C15 R14 N14 T14 O14 f5 hop hop2
        have hi20 : Hid ((Tryz.prog.info? 20).map (·.size) = some 1) := Lib.hid (by kernel_rfl)
        go_wp2_with (refine wpList_store_one rfl 20 (.tmp 184) (.tmp 181) rfl w.heap.size 7 94 [.int .u16 f.mach, .int .u16 f.names.length, .int .u32 f.time, .int .u32 f.place, .int .u32 f.n, .int .u16 f.optn, .int .u16 f.flags, .nilIface, .slice none 0 0, .slice sA sn sc, .slice VC f.n cc, .slice TA f.texts.length tc] ov rfl rfl N15.out.f (by simp) hi20.out hov.out ?_; refine Stop.mk ?_)
        refine Stop.go ?_
        have N16 : Hid (NS w (w15.setCell ⟨w.heap.size, 7, none⟩ ov) w.heap.size (w.heap.size + 1) R A l [.int .u16 f.mach, .int .u16 f.names.length, .int .u32 f.time, .int .u32 f.place, .int .u32 f.n, .int .u16 f.optn, .int .u16 f.flags, ov, .slice none 0 0, .slice sA sn sc, .slice VC f.n cc, .slice TA f.texts.length tc]) := Lib.hid (N15.out.set 7 ov)
        have T16 := Lib.hid (T15.out.chgS ((Chg.refl (· = w.heap.size) w15).setCell ⟨w.heap.size, 7, none⟩ ov (.inl rfl)) (fun k e => .inl e))
        have O16 := Lib.hid (O15.out.chgS ((Chg.refl (· = w.heap.size) w15).setCell ⟨w.heap.size, 7, none⟩ ov (.inl rfl)) (fun k e => .inl e))
        have R16 := Lib.hid (N15.out.rdrF R15.out 7 ov)
        obtain ⟨w16, e16⟩ : ∃ w16, w15.setCell ⟨w.heap.size, 7, none⟩ ov = w16 := ⟨_, rfl⟩
        rw [e16] at N16 T16 O16 R16 ⊢
        clear e16 R15 N15 T15 O15 hov hi20
        have f1 : w16.cell? ⟨w.heap.size, 1, none⟩ = some (.int .u16 f.names.length) := World.cell?_of_row N16.out.f 1 _ rfl
        have hnb := hF.out.nb
        have hmk := makeSecs f.names.length (by omega)
        have N17 := Lib.hid (N16.out.later ((Below.refl _ w16).alloc (Nat.le_refl _) (.cells (Array.replicate f.names.length (Value.pointer none)) 128)))
        have T17 := Lib.hid (T16.out.later ((Below.refl _ w16).alloc (Nat.le_refl _) (.cells (Array.replicate f.names.length (Value.pointer none)) 128)))
        have O17 := Lib.hid (O16.out.later ((Below.refl _ w16).alloc (Nat.le_refl _) (.cells (Array.replicate f.names.length (Value.pointer none)) 128)))
        have R17 := Lib.hid (R16.out.later ((Below.refl _ w16).alloc (Nat.le_refl _) (.cells (Array.replicate f.names.length (Value.pointer none)) 128)))
        have G17 := Lib.hid (heap_alloc_new w16 (.cells (Array.replicate f.names.length (Value.pointer none)) 128))
        have c8 := World.cell?_of_row N17.out.f 8 (.slice none 0 0) rfl
        have g8 := frozen_of_row _ w.heap.size 8 _ _ N17.out.f
        go_upto_region 49 with fail
        have C18 := (Chg.refl (· = w.heap.size) (w16.alloc (.cells (Array.replicate f.names.length (Value.pointer none)) 128))).setCell ⟨w.heap.size, 8, none⟩ (.slice (some ⟨w16.heap.size, 0, none⟩) f.names.length f.names.length) (.inl rfl)
        have N18 : Hid (NS w ((w16.alloc (.cells (Array.replicate f.names.length (Value.pointer none)) 128)).setCell ⟨w.heap.size, 8, none⟩ (.slice (some ⟨w16.heap.size, 0, none⟩) f.names.length f.names.length)) w.heap.size (w.heap.size + 1) R A l [.int .u16 f.mach, .int .u16 f.names.length, .int .u32 f.time, .int .u32 f.place, .int .u32 f.n, .int .u16 f.optn, .int .u16 f.flags, ov, .slice (some ⟨w16.heap.size, 0, none⟩) f.names.length f.names.length, .slice sA sn sc, .slice VC f.n cc, .slice TA f.texts.length tc]) := Lib.hid (N17.out.set 8 (.slice (some ⟨w16.heap.size, 0, none⟩) f.names.length f.names.length))
        have R18 := Lib.hid (N17.out.rdrF R17.out 8 (.slice (some ⟨w16.heap.size, 0, none⟩) f.names.length f.names.length))
        have T18 := Lib.hid (T17.out.chgS C18 (fun k e => .inl e))
        have O18 := Lib.hid (O17.out.chgS C18 (fun k e => .inl e))
        have G18 := Lib.hid (C18.row G17.out (by show ¬ w16.heap.size = w.heap.size; have := N16.out.F_lt; omega))
        obtain ⟨G, hG⟩ : ∃ G, w16.heap.size = G := ⟨_, rfl⟩
        have hGl : w.heap.size < G ∧ w.heap.size + 1 < G := ⟨by have := N16.out.F_lt; omega, by have := N16.out.M_lt; omega⟩
        have hTG : Hid (f.texts ≠ [] → ∀ a, TA = some a → a.block ≠ G) := Lib.hid (fun ht a ha => by have := (T16.out.at_ ht a ha).2.2; omega)
        rw [hG] at N18 T18 O18 G18 R18 C18 ⊢
        obtain ⟨w18, e18⟩ : ∃ w18, (w16.alloc (.cells (Array.replicate f.names.length (Value.pointer none)) 128)).setCell ⟨w.heap.size, 8, none⟩ (.slice (some ⟨G, 0, none⟩) f.names.length f.names.length) = w18 := ⟨_, rfl⟩
        rw [e18] at N18 T18 O18 G18 R18 ⊢
        clear e18 N17 T17 O17 R17 N16 T16 O16 R16 G17 C18 c8 g8 f1 hmk hG
        replace G18 : Hid (w18.heap[G]? = some (.cells ((([] : List Nat).map fun S => Value.pointer (some ⟨S, 0, none⟩)) ++ List.replicate (f.names.length - 0) (Value.pointer none)).toArray 128 (0, 0))) := Lib.hid (by simpa using G18.out)
        replace R18 : Hid (Rdr w18 (secV (w.heap.size + 1)) (w.heap.size + 1) (DR R A) l (f.base + 20 + f.optn + 40 * 0)) := Lib.hid (by rw [← hb20'.out]; exact R18.out)
        have S18 : Hid (SECS w w18 w.heap.size (w.heap.size + 1) G l f.names []) := Lib.hid ⟨Nat.zero_le _, fun k S name h => by simp at h, fun S h => by simp at h⟩
        clear hb20'
        go_wp2_with fail
        go_loopw [16, 17, 18, 19, 20, 21, 22] (fun c16 c17 c18 c19 c20 c21 c22 wx => ∃ (k : Nat) (bs : List Nat), k ≤ f.names.length ∧ c16 = .int .i64 k ∧ Hid (bs.length = k) ∧ Hid (NS w wx w.heap.size (w.heap.size + 1) R A l [.int .u16 f.mach, .int .u16 f.names.length, .int .u32 f.time, .int .u32 f.place, .int .u32 f.n, .int .u16 f.optn, .int .u16 f.flags, ov, .slice (some ⟨G, 0, none⟩) f.names.length f.names.length, .slice sA sn sc, .slice VC f.n cc, .slice TA f.texts.length tc]) ∧ Hid (Rdr wx (secV (w.heap.size + 1)) (w.heap.size + 1) (DR R A) l (f.base + 20 + f.optn + 40 * k)) ∧ Hid (TX wx w.heap.size (w.heap.size + 1) TA f.texts) ∧ Hid (CO w wx w.heap.size (w.heap.size + 1) (.slice VC f.n cc) f.n (symRow (l.drop f.place) f.n)) ∧
          Hid (wx.heap[G]? = some (.cells ((bs.map fun S => Value.pointer (some ⟨S, 0, none⟩)) ++ List.replicate (f.names.length - k) (Value.pointer none)).toArray 128 (0, 0))) ∧ Hid (SECS w wx w.heap.size (w.heap.size + 1) G l f.names bs)) (fun c16 _ _ _ _ _ _ _ => f.names.length - (intOf c16).toNat)
        case atStart => exact ⟨0, [], Nat.zero_le _, rfl, Lib.hid rfl, N18, R18, T18, O18, G18, S18⟩
        case round =>
          clear N18 R18 T18 O18 G18 S18
          obtain ⟨k, bs, hk, rfl, hbs, hNk, hRk, hTk, hOk, hGk, hSk⟩ := hrel
          have f1 : wr.cell? ⟨w.heap.size, 1, none⟩ = some (.int .u16 f.names.length) := World.cell?_of_row hNk.out.f 1 _ rfl
          have f8 : wr.cell? ⟨w.heap.size, 8, none⟩ = some (.slice (some ⟨G, 0, none⟩) f.names.length f.names.length) := World.cell?_of_row hNk.out.f 8 _ rfl
          by_cases hkn : k < f.names.length
          ·
            --[L1
            go_upto_region 53 with fail
            have hHM : w.heap.size + 1 < wr.heap.size := hNk.out.M_lt
            have hHF : w.heap.size < wr.heap.size := hNk.out.F_lt
            have hHG : G < wr.heap.size := (Array.getElem?_eq_some_iff.1 hGk.out).1
            obtain ⟨name, hname⟩ : ∃ name, f.names[k]? = some name := ⟨_, List.getElem?_eq_getElem hkn⟩
            obtain ⟨nm, v0, v1, v2, v3, v4, v5, v6, v7, v8, hsec, hnm8, hsn, hv2, hv3, hv4, hv6, hrel6⟩ := hF.out.secs k name hname
            obtain ⟨y0, y1, y2, y3, y4, y5, y6, y7, rfl⟩ := list8' hnm8.symm
            replace hname := Lib.hid hname
            replace hsn := Lib.hid hsn
            replace hnm8 := Lib.hid hnm8
            replace hrel6 := Lib.hid hrel6
            have R1 := Lib.hid (hRk.out.later ((Below.refl _ wr).alloc (Nat.le_refl _) (.cells #[.int .u8 0, .int .u8 0, .int .u8 0, .int .u8 0, .int .u8 0, .int .u8 0, .int .u8 0, .int .u8 0, .int .u32 0, .int .u32 0, .int .u32 0, .int .u32 0, .int .u32 0, .int .u32 0, .int .u16 0, .int .u16 0, .int .u32 0] 125)))
            have V1 := Lib.hid (heap_alloc_new wr (.cells #[.int .u8 0, .int .u8 0, .int .u8 0, .int .u8 0, .int .u8 0, .int .u8 0, .int .u8 0, .int .u8 0, .int .u32 0, .int .u32 0, .int .u32 0, .int .u32 0, .int .u32 0, .int .u32 0, .int .u16 0, .int .u16 0, .int .u32 0] 125))
            have hp40 : Hid (f.base + 20 + f.optn + 40 * k + 40 ≤ l.length) := Lib.hid (by have := hF.out.hl; omega)
            go_wp2_with fail
            refine (readSectionHeader32_all wr.heap.size (w.heap.size + 1) (secV (w.heap.size + 1)) (DR R A) l (f.base + 20 + f.optn + 40 * k) false 125 _ R1 hp40 (by omega) (Lib.hid (fun e => by have := hD.out _ e; omega)) V1).mono ?_
            rintro e w2 ⟨rfl, R2, V2, C2⟩
            rw [hsec] at V2
            have C02 : Hid (Chg (· = w.heap.size + 1) wr w2) := Lib.hid (((Chg.refl (· = w.heap.size + 1) wr).alloc _).trans (C2.mono (fun k _ e => e.imp id (fun e => Nat.le_of_eq e.symm))))
            have N2 := Lib.hid (hNk.out.chg C02.out (Lib.hid ⟨_, R2.out⟩))
            have T2 := Lib.hid (hTk.out.chgS C02.out (fun k e => .inr (.inl e)))
            have f11 := World.cell?_of_row N2.out.f 11 (.slice TA f.texts.length tc) rfl
            have htl := hF.out.txl
            clear C2 V1 R1 hp40 hsec
            go_wp2_with fail
            refine (secName_ok wr.heap.size [y0, y1, y2, y3, y4, y5, y6, y7] name [.int .u32 (v0 : Int), .int .u32 (v1 : Int), .int .u32 (v2 : Int), .int .u32 (v3 : Int), .int .u32 (v4 : Int), .int .u32 (v5 : Int), .int .u16 (v6 : Int), .int .u16 (v7 : Int), .int .u32 (v8 : Int)] 125 TA f.texts f.texts.length tc w2 hnm8 hsn (Lib.hid rfl) htc (by omega) (Lib.hid T2.out.rb) V2).mono ?_
            rintro e w3 ⟨rfl, b3⟩
            have b4 : Below w2.heap.size w2 (w3.alloc (.cells #[.string ⟨#[]⟩, .int .u32 0, .int .u32 0, .int .u32 0, .int .u32 0, .int .u32 0, .int .u32 0, .int .u16 0, .int .u16 0, .int .u32 0, .slice none 0 0, .nilIface, .pointer none] 133)) := b3.alloc b3.size _
            have z3 : wr.heap.size < w3.heap.size := by have := C02.out.size; have := b3.size; have := (Array.getElem?_eq_some_iff.1 V2.out).1; omega
            have R3 := Lib.hid (R2.out.later b4)
            have H4 : Hid (_) := row_later b4 V2
            have P4 : Hid ((w3.alloc (.cells #[.string ⟨#[]⟩, .int .u32 0, .int .u32 0, .int .u32 0, .int .u32 0, .int .u32 0, .int .u32 0, .int .u16 0, .int .u16 0, .int .u32 0, .slice none 0 0, .nilIface, .pointer none] 133)).heap[w3.heap.size]? = some (.cells ([.string ⟨#[]⟩, .int .u32 0, .int .u32 0, .int .u32 0, .int .u32 0, .int .u32 0, .int .u32 0, .int .u16 0, .int .u16 0, .int .u32 0, .slice none 0 0, .nilIface, .pointer none] : List Value).toArray 133 (0, 0))) := Lib.hid (heap_alloc_new w3 _)
            have C04 : Hid (Chg (· = w.heap.size + 1) wr (w3.alloc (.cells #[.string ⟨#[]⟩, .int .u32 0, .int .u32 0, .int .u32 0, .int .u32 0, .int .u32 0, .int .u32 0, .int .u16 0, .int .u16 0, .int .u32 0, .slice none 0 0, .nilIface, .pointer none] 133))) := Lib.hid (C02.out.trans (chg_of_new b4))
            replace b3 := Lib.hid b3
            clear R2 V2 N2 T2 f11 b4 hnm8 hsn
            go_upto_region 60 with fail
            obtain ⟨w4, e4⟩ : ∃ w4, w3.alloc (.cells #[.string ⟨#[]⟩, .int .u32 0, .int .u32 0, .int .u32 0, .int .u32 0, .int .u32 0, .int .u32 0, .int .u16 0, .int .u16 0, .int .u32 0, .slice none 0 0, .nilIface, .pointer none] 133) = w4 := ⟨_, rfl⟩
            rw [e4] at R3 H4 P4 C04 ⊢
            have z4 : w3.heap.size < w4.heap.size := (Array.getElem?_eq_some_iff.1 P4.out).1
            clear e4 b3
            have d8 := World.cell?_of_row H4.out 8 (.int .u32 (v0 : Int)) rfl
            have d9 := World.cell?_of_row H4.out 9 (.int .u32 (v1 : Int)) rfl
            have d10 := World.cell?_of_row H4.out 10 (.int .u32 (v2 : Int)) rfl
            have d11 := World.cell?_of_row H4.out 11 (.int .u32 (v3 : Int)) rfl
            have d12 := World.cell?_of_row H4.out 12 (.int .u32 (v4 : Int)) rfl
            have d13 := World.cell?_of_row H4.out 13 (.int .u32 (v5 : Int)) rfl
            have d14 := World.cell?_of_row H4.out 14 (.int .u16 (v6 : Int)) rfl
            have d15 := World.cell?_of_row H4.out 15 (.int .u16 (v7 : Int)) rfl
            have d16 := World.cell?_of_row H4.out 16 (.int .u32 (v8 : Int)) rfl
            have hne : ¬ wr.heap.size = w3.heap.size := by omega
            have hlt4 : wr.heap.size < w4.heap.size := by omega
            go_cut [] from 227 to 268 (fun wx => Hid (wx.heap[w3.heap.size]? = some (.cells ([.string ⟨name.toArray⟩, .int .u32 (v0 : Int), .int .u32 (v1 : Int), .int .u32 (v2 : Int), .int .u32 (v3 : Int), .int .u32 (v4 : Int), .int .u32 (v5 : Int), .int .u16 (v6 : Int), .int .u16 (v7 : Int), .int .u32 (v8 : Int), .slice none 0 0, .nilIface, .pointer none] : List Value).toArray 133 (0, 0))) ∧ Hid (Chg (· = w3.heap.size) w4 wx))
            case first =>
              --[R60
              have hi86 : Hid ((Tryz.prog.info? 130).map (·.size) = some 10) := Lib.hid (by kernel_rfl)
              have P4d : Hid (w4.drew.heap[w3.heap.size]? = some (.cells ([.string ⟨#[]⟩, .int .u32 0, .int .u32 0, .int .u32 0, .int .u32 0, .int .u32 0, .int .u32 0, .int .u16 0, .int .u16 0, .int .u32 0, .slice none 0 0, .nilIface, .pointer none] : List Value).toArray 133 (0, 0))) := Lib.hid P4.out
              go_still_tail 41, (by kernel_rfl)
              change wpList _ _ _ _ _ w4.drew
              refine wpList_store_head rfl 130 (.tmp 268) (.tmp 266) rfl w3.heap.size 133 ([.string ⟨#[]⟩, .int .u32 0, .int .u32 0, .int .u32 0, .int .u32 0, .int .u32 0, .int .u32 0, .int .u16 0, .int .u16 0, .int .u32 0, .slice none 0 0, .nilIface, .pointer none] : List Value).toArray #[.string ⟨name.toArray⟩, .int .u32 (v0 : Int), .int .u32 (v1 : Int), .int .u32 (v2 : Int), .int .u32 (v3 : Int), .int .u32 (v4 : Int), .int .u32 (v5 : Int), .int .u16 (v6 : Int), .int .u16 (v7 : Int), .int .u32 (v8 : Int)] rfl rfl P4d.out (by simp) hi86.out (List.all_eq_true.1 rfl) ?_
              have hrow := setRow_heap w4.drew w3.heap.size _ ((#[.string ⟨name.toArray⟩, .int .u32 (v0 : Int), .int .u32 (v1 : Int), .int .u32 (v2 : Int), .int .u32 (v3 : Int), .int .u32 (v4 : Int), .int .u32 (v5 : Int), .int .u16 (v6 : Int), .int .u16 (v7 : Int), .int .u32 (v8 : Int)] : Array Value).toList ++ (([.string ⟨#[]⟩, .int .u32 0, .int .u32 0, .int .u32 0, .int .u32 0, .int .u32 0, .int .u32 0, .int .u16 0, .int .u16 0, .int .u32 0, .slice none 0 0, .nilIface, .pointer none] : List Value).toArray.toList.drop 10)).toArray _ _ P4d.out
              have hchg := (setRow_chg w4.drew w3.heap.size ((#[.string ⟨name.toArray⟩, .int .u32 (v0 : Int), .int .u32 (v1 : Int), .int .u32 (v2 : Int), .int .u32 (v3 : Int), .int .u32 (v4 : Int), .int .u32 (v5 : Int), .int .u16 (v6 : Int), .int .u16 (v7 : Int), .int .u32 (v8 : Int)] : Array Value).toList ++ (([.string ⟨#[]⟩, .int .u32 0, .int .u32 0, .int .u32 0, .int .u32 0, .int .u32 0, .int .u32 0, .int .u16 0, .int .u16 0, .int .u32 0, .slice none 0 0, .nilIface, .pointer none] : List Value).toArray.toList.drop 10)).toArray).undrew
              go_wp2_with fail
              go_meet
              case rel => exact ⟨Lib.hid hrow, Lib.hid hchg⟩
              --]R60
            case rest =>
              obtain ⟨P5, C45⟩ := hcut
              obtain ⟨w5, rfl⟩ : ∃ w5, w5 = wc := ⟨wc, rfl⟩
              have C05 : Hid (Chg (· = w.heap.size + 1) wr w5) := Lib.hid (C04.out.trans (C45.out.mono (fun k _ e => .inr (by have e' : k = w3.heap.size := e; omega))))
              have R5 := Lib.hid (R3.out.chg C45.out (by show ¬ w.heap.size + 1 = w3.heap.size; omega) (fun k hk e => by have := hD.out k hk; have e' : k = w3.heap.size := e; omega))
              have d11' : w5.cell? ⟨wr.heap.size, 11, none⟩ = some (.int .u32 (v3 : Int)) := (C45.out.cell (p := ⟨wr.heap.size, 11, none⟩) hlt4 hne).trans d11
              have z5 := C45.out.size
              clear d8 d9 d10 d11 d12 d13 d14 d15 d16 H4 P4 R3 C04 C45 hlt4 hne
              go_upto_if 274 with fail
              go_cut [22] from 269 to 277 (fun c22 wx => ∃ (T9 : TypeId) (p9 : Addr), c22 = .iface T9 (.pointer (some p9)) ∧ Hid (Below w5.heap.size w5 wx))
              case first =>
                --[R62
                by_cases h3 : v3 = 0
                · have hb3 : ((v3 : Int) == 0) = true := by rw [beq_iff_eq]; omega
                  clear h3
                  go_wp2_with fail
                  go_meet
                  case rel => exact ⟨_, _, rfl, Lib.hid ((Below.refl _ _).alloc (Nat.le_refl _) _)⟩
                · have hb3 : ((v3 : Int) == 0) = false := by rw [beq_eq_false_iff_ne]; omega
                  clear h3
                  go_wp2_with fail
                  go_meet
                  case rel => exact ⟨_, _, rfl, Lib.hid (Below.refl _ _)⟩
                --]R62
              case rest =>
                obtain ⟨T9, p9, rfl, b9⟩ := hcut
                obtain ⟨w6, rfl⟩ : ∃ w6, w6 = wc := ⟨wc, rfl⟩
                have C06 : Hid (Chg (· = w.heap.size + 1) wr w6) := Lib.hid (C05.out.trans (chg_of_new b9.out))
                have R6 := Lib.hid (R5.out.later b9.out)
                have P6 := row_later b9.out P5
                have z6 : w3.heap.size < w6.heap.size := (Array.getElem?_eq_some_iff.1 P6.out).1
                have K0 : Hid (w6.drew.cell? ⟨w3.heap.size, 4, none⟩ = some (.int .u32 (v3 : Int)) ∧ w6.drew.cell? ⟨w3.heap.size, 3, none⟩ = some (.int .u32 (v2 : Int))) := Lib.hid ⟨World.cell?_of_row P6.out 4 _ rfl, World.cell?_of_row P6.out 3 _ rfl⟩
                have hw2 : IntKind.i64.wrap (v2 : Int) = (v2 : Int) := IntWalk.i64_in _ (by omega)
                have hw3 : IntKind.i64.wrap (v3 : Int) = (v3 : Int) := IntWalk.i64_in _ (by omega)
                have CALL : Hid (∀ q, Calls Tryz.prog 32 #[.iface T9 (.pointer (some p9)), .int .i64 (v3 : Int), .int .i64 (v2 : Int)] (w6.drewN q) fun e w' => e = .returned (.pointer (some ⟨w6.heap.size, 0, none⟩)) ∧ Below w6.heap.size w6 w') := Lib.hid (fun q =>
                  (newSec T9 p9 v3 v2 (by omega) (by omega) (w6.drewN q)).mono fun e w' ⟨h1, h2⟩ => ⟨h1, ⟨h2.os, h2.tape, h2.output, h2.size, h2.block⟩⟩)
                clear b9 C05 R5 P5 d11' z5
                go_upto_region 64 with fail
                go_region_held3 (fun w' => w'.cell? ⟨w3.heap.size, 4, none⟩ = some (.int .u32 (v3 : Int)) ∧ w'.cell? ⟨w3.heap.size, 3, none⟩ = some (.int .u32 (v2 : Int)))
                  (first | with_reducible exact K0.out | with_reducible exact K7.out | with_reducible exact K8.out | fail)
                  (first
                    | (go_at_call 32; refine (CALL.out _).mono ?_; rintro e w7 ⟨rfl, b7⟩; have P7 := row_later b7 P6; have K7 : Hid (w7.cell? ⟨w3.heap.size, 4, none⟩ = some (.int .u32 (v3 : Int)) ∧ w7.cell? ⟨w3.heap.size, 3, none⟩ = some (.int .u32 (v2 : Int))) := Lib.hid ⟨World.cell?_of_row P7.out 4 _ rfl, World.cell?_of_row P7.out 3 _ rfl⟩; have c12 := World.cell?_of_row P7.out 12 (.pointer none) rfl; have g12 := frozen_of_row _ w3.heap.size 12 _ _ P7.out; have P8 := Lib.hid (heap_setCell_same w7 w3.heap.size 12 _ _ (.pointer (some ⟨w6.heap.size, 0, none⟩)) P7.out); have K8 : Hid ((w7.setCell ⟨w3.heap.size, 12, none⟩ (.pointer (some ⟨w6.heap.size, 0, none⟩))).cell? ⟨w3.heap.size, 4, none⟩ = some (.int .u32 (v3 : Int)) ∧ (w7.setCell ⟨w3.heap.size, 12, none⟩ (.pointer (some ⟨w6.heap.size, 0, none⟩))).cell? ⟨w3.heap.size, 3, none⟩ = some (.int .u32 (v2 : Int))) := Lib.hid ⟨World.cell?_of_row (l := [.string ⟨name.toArray⟩, .int .u32 (v0 : Int), .int .u32 (v1 : Int), .int .u32 (v2 : Int), .int .u32 (v3 : Int), .int .u32 (v4 : Int), .int .u32 (v5 : Int), .int .u16 (v6 : Int), .int .u16 (v7 : Int), .int .u32 (v8 : Int), .slice none 0 0, .nilIface, .pointer (some ⟨w6.heap.size, 0, none⟩)]) P8.out 4 _ rfl, World.cell?_of_row (l := [.string ⟨name.toArray⟩, .int .u32 (v0 : Int), .int .u32 (v1 : Int), .int .u32 (v2 : Int), .int .u32 (v3 : Int), .int .u32 (v4 : Int), .int .u32 (v5 : Int), .int .u16 (v6 : Int), .int .u16 (v7 : Int), .int .u32 (v8 : Int), .slice none 0 0, .nilIface, .pointer (some ⟨w6.heap.size, 0, none⟩)]) P8.out 3 _ rfl⟩)
                    | fail)
                have C08 : Hid (Chg (· = w.heap.size + 1) wr (w7.setCell ⟨w3.heap.size, 12, none⟩ (.pointer (some ⟨w6.heap.size, 0, none⟩)))) := Lib.hid ((C06.out.trans (chg_of_new b7)).setCell _ _ (.inr (by show wr.heap.size ≤ w3.heap.size; omega)))
                have R8 := Lib.hid ((R6.out.later b7).chg ((Chg.refl (· = w3.heap.size) w7).setCell ⟨w3.heap.size, 12, none⟩ (.pointer (some ⟨w6.heap.size, 0, none⟩)) (.inl rfl)) (by show ¬ w.heap.size + 1 = w3.heap.size; omega) (fun k hk e => by have := hD.out k hk; have e' : k = w3.heap.size := e; omega))
                obtain ⟨w8, e8⟩ : ∃ w8, w7.setCell ⟨w3.heap.size, 12, none⟩ (.pointer (some ⟨w6.heap.size, 0, none⟩)) = w8 := ⟨_, rfl⟩
                rw [e8] at P8 C08 R8 ⊢
                replace P8 : Hid (w8.heap[w3.heap.size]? = some (.cells ([.string ⟨name.toArray⟩, .int .u32 (v0 : Int), .int .u32 (v1 : Int), .int .u32 (v2 : Int), .int .u32 (v3 : Int), .int .u32 (v4 : Int), .int .u32 (v5 : Int), .int .u16 (v6 : Int), .int .u16 (v7 : Int), .int .u32 (v8 : Int), .slice none 0 0, .nilIface, .pointer (some ⟨w6.heap.size, 0, none⟩)] : List Value).toArray 133 (0, 0))) := P8
                clear e8 b7 P7 K7 K8 K0 c12 g12 CALL hw2 hw3 P6 R6 C06
                have s12 := World.cell?_of_row P8.out 12 (.pointer (some ⟨w6.heap.size, 0, none⟩)) rfl
                have c11 := World.cell?_of_row P8.out 11 .nilIface rfl
                have g11 := frozen_of_row _ w3.heap.size 11 _ _ P8.out
                go_upto_region 66 with fail
                have P9 : Hid ((w8.setCell ⟨w3.heap.size, 11, none⟩ (.iface 103 (.pointer (some ⟨w6.heap.size, 0, none⟩)))).heap[w3.heap.size]? = some (.cells ([.string ⟨name.toArray⟩, .int .u32 (v0 : Int), .int .u32 (v1 : Int), .int .u32 (v2 : Int), .int .u32 (v3 : Int), .int .u32 (v4 : Int), .int .u32 (v5 : Int), .int .u16 (v6 : Int), .int .u16 (v7 : Int), .int .u32 (v8 : Int), .slice none 0 0, .iface 103 (.pointer (some ⟨w6.heap.size, 0, none⟩)), .pointer (some ⟨w6.heap.size, 0, none⟩)] : List Value).toArray 133 (0, 0))) := Lib.hid (heap_setCell_same w8 w3.heap.size 11 _ _ (.iface 103 (.pointer (some ⟨w6.heap.size, 0, none⟩))) P8.out)
                have C09 : Hid (Chg (· = w.heap.size + 1) wr (w8.setCell ⟨w3.heap.size, 11, none⟩ (.iface 103 (.pointer (some ⟨w6.heap.size, 0, none⟩))))) := Lib.hid (C08.out.setCell _ _ (.inr (by show wr.heap.size ≤ w3.heap.size; omega)))
                have R9 := Lib.hid (R8.out.chg ((Chg.refl (· = w3.heap.size) w8).setCell ⟨w3.heap.size, 11, none⟩ (.iface 103 (.pointer (some ⟨w6.heap.size, 0, none⟩))) (.inl rfl)) (by show ¬ w.heap.size + 1 = w3.heap.size; omega) (fun k hk e => by have := hD.out k hk; have e' : k = w3.heap.size := e; omega))
                obtain ⟨w9, e9⟩ : ∃ w9, w8.setCell ⟨w3.heap.size, 11, none⟩ (.iface 103 (.pointer (some ⟨w6.heap.size, 0, none⟩))) = w9 := ⟨_, rfl⟩
                rw [e9] at P9 C09 R9 ⊢
                clear e9 s12 c11 g11 P8 C08 R8
                have N9 := Lib.hid (hNk.out.chg C09.out (Lib.hid ⟨_, R9.out⟩))
                have T9' := Lib.hid (hTk.out.chgS C09.out (fun k e => .inr (.inl e)))
                have O9 := Lib.hid (hOk.out.chgS C09.out (fun k e => .inr (.inl e)))
                have G9 := Lib.hid (C09.out.row hGk.out (by show ¬ G = w.heap.size + 1; omega))
                have S9 := Lib.hid (hSk.out.chg C09.out (fun k e => .inr (.inl e)))
                have f8' : w9.cell? ⟨w.heap.size, 8, none⟩ = some (.slice (some ⟨G, 0, none⟩) f.names.length f.names.length) := World.cell?_of_row N9.out.f 8 _ rfl
                have cG : w9.cell? ⟨G, k, none⟩ = some (.pointer none) := World.cell?_of_row G9.out k _ (by
                  rw [List.getElem?_append_right (by rw [List.length_map, hbs.out]; exact Nat.le_refl _), List.length_map, hbs.out, Nat.sub_self, List.getElem?_replicate_of_lt (by omega)])
                have gG := frozen_of_row _ G k _ _ G9.out
                go_upto_region 51 with fail
                have CG := (Chg.refl (· = G) w9).setCell ⟨G, k, none⟩ (.pointer (some ⟨w3.heap.size, 0, none⟩)) (.inl rfl)
                have KG : Keeps 128 w9 (w9.setCell ⟨G, k, none⟩ (.pointer (some ⟨w3.heap.size, 0, none⟩))) := keeps_set G9.out
                have N10 := Lib.hid (N9.out.chgS CG (by show ¬ w.heap.size = G; omega) (by show ¬ w.heap.size + 1 = G; omega) (fun k e => by have e' : k = G := e; omega))
                have R10 := N9.out.rdrS R9.out CG (by show ¬ w.heap.size + 1 = G; omega) (fun k e => by have e' : k = G := e; omega)
                replace R10 : Hid (Rdr (w9.setCell ⟨G, k, none⟩ (.pointer (some ⟨w3.heap.size, 0, none⟩))) (secV (w.heap.size + 1)) (w.heap.size + 1) (DR R A) l (f.base + 20 + f.optn + 40 * (k + 1))) := Lib.hid (by
                  rw [show f.base + 20 + f.optn + 40 * (k + 1) = f.base + 20 + f.optn + 40 * k + 40 by omega]
                  exact R10)
                have T10 := Lib.hid (T9'.out.other CG hTG.out)
                have O10 := Lib.hid (O9.out.keeps KG (by decide))
                have S10 := Lib.hid ((S9.out.push (by rw [hbs.out]; exact hname.out) ⟨_, _, _, _, _, _, _, _, _, _, P9.out⟩ hv4 hv6 hrel6.out (by omega) (by omega) (by omega) (by omega)).chg CG (fun k e => .inr (.inr (.inl e))))
                have hbs' : Hid ((bs ++ [w3.heap.size]).length = k + 1) := Lib.hid (by rw [List.length_append, hbs.out]; rfl)
                have G10 : Hid ((w9.setCell ⟨G, k, none⟩ (.pointer (some ⟨w3.heap.size, 0, none⟩))).heap[G]? = some (.cells (((bs ++ [w3.heap.size]).map fun S => Value.pointer (some ⟨S, 0, none⟩)) ++ List.replicate (f.names.length - (k + 1)) (Value.pointer none)).toArray 128 (0, 0))) := Lib.hid (by
                  have e := set_push (fun S => Value.pointer (some ⟨S, 0, none⟩)) (.pointer none) bs w3.heap.size f.names.length (by rw [hbs.out]; exact hkn)
                  rw [hbs.out] at e
                  rw [heap_setCell_same w9 G k _ _ _ G9.out, List.setIfInBounds_toArray, e])
                obtain ⟨w10, e10⟩ : ∃ w10, w9.setCell ⟨G, k, none⟩ (.pointer (some ⟨w3.heap.size, 0, none⟩)) = w10 := ⟨_, rfl⟩
                rw [e10] at N10 R10 T10 O10 S10 G10 ⊢
                clear CG KG e10 N9 R9 T9' O9 G9 S9 P9 C09 cG gG f8' hNk hRk hTk hOk hGk hSk hbs f1 f8
                go_wp2
                go_roundw
                case rel => exact ⟨k + 1, _, by omega, by go_num, hbs', N10, R10, T10, O10, G10, S10⟩
                case measure => simp [intOf]; omega
            --]L1
          · obtain rfl : f.names.length = k := by omega
            --[X1
            have hG' : Hid (wr.heap[G]? = some (.cells (bs.map fun S => Value.pointer (some ⟨S, 0, none⟩)).toArray 128 (0, 0))) := Lib.hid (by
              have h := hGk.out
              rw [Nat.sub_self, List.replicate_zero, List.append_nil] at h
              exact h)
            clear hGk hRk hTk hTG
            go_wp2_with fail
            clear f1
            go_loopw [23, 24, 315] (fun c23 c24 i wx => ∃ j : Nat, j ≤ f.names.length ∧ i = .int .i64 j ∧ Hid (NS w wx w.heap.size (w.heap.size + 1) R A l [.int .u16 f.mach, .int .u16 f.names.length, .int .u32 f.time, .int .u32 f.place, .int .u32 f.n, .int .u16 f.optn, .int .u16 f.flags, ov, .slice (some ⟨G, 0, none⟩) f.names.length f.names.length, .slice sA sn sc, .slice VC f.n cc, .slice TA f.texts.length tc]) ∧ Hid (CO w wx w.heap.size (w.heap.size + 1) (.slice VC f.n cc) f.n (symRow (l.drop f.place) f.n)) ∧ Hid (wx.heap[G]? = some (.cells (bs.map fun S => Value.pointer (some ⟨S, 0, none⟩)).toArray 128 (0, 0))) ∧ Hid (SECS w wx w.heap.size (w.heap.size + 1) G l f.names bs)) (fun _ _ i _ => f.names.length - (intOf i).toNat)
            case atStart => exact ⟨0, Nat.zero_le _, rfl, hNk, hOk, hG', hSk⟩
            case round =>
              clear hNk hOk hG' hSk f8
              obtain ⟨j, hj, rfl, hNj, hOj, hGj, hSj⟩ := hrel
              by_cases hjn : j < f.names.length
              ·
                --[X2
                obtain ⟨S, hS⟩ : ∃ S, bs[j]? = some S := ⟨_, List.getElem?_eq_getElem (by rw [hbs.out]; exact hjn)⟩
                obtain ⟨v4, v6, hsa, hv4, hv6, hv⟩ := hSj.out.sec j S _ hS (List.getElem?_eq_getElem hjn)
                obtain ⟨hS0, hSlt, hSF, hSM, hSG⟩ := hSj.out.at_ S (List.mem_of_getElem? hS)
                have cG : wr.cell? ⟨G, j, none⟩ = some (.pointer (some ⟨S, 0, none⟩)) := World.cell?_of_row hGj.out j _ (by rw [List.getElem?_map, hS]; rfl)
                have cF : wr.cell? ⟨w.heap.size, 8, none⟩ = some (.slice (some ⟨G, 0, none⟩) f.names.length f.names.length) := World.cell?_of_row hNj.out.f 8 _ rfl
                replace hS := Lib.hid hS
                replace hv := Lib.hid hv
                obtain ⟨x1, x2, x3, x4, x6, x8, x9, x10, x11, x12, hrow⟩ := hsa
                have c5 := World.cell?_of_row hrow 5 (.int .u32 (v4 : Int)) rfl
                have c7 := World.cell?_of_row hrow 7 (.int .u16 (v6 : Int)) rfl
                have hMlt := hNj.out.M_lt
                have hFlt := hNj.out.F_lt
                have hGlt : G < wr.heap.size := (Array.getElem?_eq_some_iff.1 hGj.out).1
                replace hrow := Lib.hid hrow
                have CALL : Hid (∀ q, Calls Tryz.prog 42 #[.pointer (some ⟨S, 0, none⟩), secV (w.heap.size + 1)] (wr.drewN q) fun e w' => (∃ A k c, e = .returned (.tuple #[.slice A k c, .nilIface])) ∧ Hid (∃ p, Rdr w' (secV (w.heap.size + 1)) (w.heap.size + 1) (DR R A) l p) ∧ Chg (fun k => k = w.heap.size + 1) wr w') := Lib.hid (fun q => by
                  obtain ⟨p, hp⟩ := hNj.out.r
                  refine (relocsAny S 0 v4 v6 (w.heap.size + 1) (DR R A) l (wr.drewN q) (Lib.hid ⟨p, hp.drewN q⟩) (by omega) hv (by omega) hSM (by exact c5) (by exact c7)).mono ?_
                  rintro e w' ⟨h1, h2, h3⟩
                  exact ⟨h1, h2, ⟨h3.os, h3.tape, h3.output, h3.size, h3.block⟩⟩)
                have K0 : Hid (wr.drew.cell? ⟨w.heap.size, 8, none⟩ = some (.slice (some ⟨G, 0, none⟩) f.names.length f.names.length) ∧ wr.drew.cell? ⟨G, j, none⟩ = some (.pointer (some ⟨S, 0, none⟩))) := Lib.hid ⟨cF, cG⟩
                clear c5 c7 hv4 hv6
                go_upto_region 71 with fail
                go_region_held3 (fun w' => w'.cell? ⟨w.heap.size, 8, none⟩ = some (.slice (some ⟨G, 0, none⟩) f.names.length f.names.length) ∧ w'.cell? ⟨G, j, none⟩ = some (.pointer (some ⟨S, 0, none⟩)))
                  (first | with_reducible exact K0.out | with_reducible exact K7.out | with_reducible exact K8.out | fail)
                  (first
                    | (go_at_call 42; refine (CALL.out _).mono ?_; rintro e w7 ⟨⟨rA, rk, rc, rfl⟩, R7, C7⟩; have P7 := Lib.hid (C7.row hrow.out hSM); have K7 : Hid (w7.cell? ⟨w.heap.size, 8, none⟩ = some (.slice (some ⟨G, 0, none⟩) f.names.length f.names.length) ∧ w7.cell? ⟨G, j, none⟩ = some (.pointer (some ⟨S, 0, none⟩))) := Lib.hid ⟨(C7.cell (p := ⟨w.heap.size, 8, none⟩) hFlt (by show ¬ w.heap.size = w.heap.size + 1; omega)).trans cF, (C7.cell (p := ⟨G, j, none⟩) hGlt (by show ¬ G = w.heap.size + 1; omega)).trans cG⟩; have c10 := World.cell?_of_row P7.out 10 x10 rfl; have g10 := frozen_of_row _ S 10 _ _ P7.out; have C8 := (Chg.refl (· = S) w7).setCell ⟨S, 10, none⟩ (.slice rA rk rc) (.inl rfl); have K8 : Hid ((w7.setCell ⟨S, 10, none⟩ (.slice rA rk rc)).cell? ⟨w.heap.size, 8, none⟩ = some (.slice (some ⟨G, 0, none⟩) f.names.length f.names.length) ∧ (w7.setCell ⟨S, 10, none⟩ (.slice rA rk rc)).cell? ⟨G, j, none⟩ = some (.pointer (some ⟨S, 0, none⟩))) := Lib.hid ⟨(C8.cell (p := ⟨w.heap.size, 8, none⟩) (Nat.lt_of_lt_of_le hFlt C7.size) (fun e => hSF e.symm)).trans K7.out.1, (C8.cell (p := ⟨G, j, none⟩) (Nat.lt_of_lt_of_le hGlt C7.size) (fun e => hSG e.symm)).trans K7.out.2⟩)
                    | fail)
                have KS : Keeps 133 w7 (w7.setCell ⟨S, 10, none⟩ (.slice rA rk rc)) := keeps_set P7.out
                have N8 := Lib.hid ((hNj.out.chg C7 R7).chgS C8 (fun e => hSF e.symm) (fun e => hSM e.symm) (fun k e => by have e' : k = S := e; omega))
                have O8 := Lib.hid ((hOj.out.chgS C7 (fun k e => .inr (.inl e))).keeps KS (by decide))
                have G8 : Hid ((w7.setCell ⟨S, 10, none⟩ (.slice rA rk rc)).heap[G]? = some (.cells (bs.map fun S => Value.pointer (some ⟨S, 0, none⟩)).toArray 128 (0, 0))) := Lib.hid (C8.row (C7.row hGj.out (by show ¬ G = w.heap.size + 1; omega)) (fun e => hSG e.symm))
                have S8 := Lib.hid ((hSj.out.chg C7 (fun k e => .inr (.inl e))).poke (S0 := S) (.slice rA rk rc))
                obtain ⟨w8, e8⟩ : ∃ w8, w7.setCell ⟨S, 10, none⟩ (.slice rA rk rc) = w8 := ⟨_, rfl⟩
                rw [e8] at N8 O8 G8 S8 ⊢
                clear e8 KS C7 C8 R7 P7 K7 K8 K0 c10 g10 CALL cF cG hrow hNj hOj hGj hSj
                go_wp2
                go_roundw
                case rel => exact ⟨j + 1, by omega, by go_num, N8, O8, G8, S8⟩
                case measure => simp [intOf]; omega
                --]X2
              · obtain rfl : f.names.length = j := by omega
                obtain ⟨B, hB, -, -, hB0⟩ := hOj.out.own
                have own9 := Lib.hid (owns_mono hB hB0)
                have F9 := Lib.hid hNj.out.f
                have b9 := Lib.hid hNj.out.b
                clear hB hNj hOj
                go_wp2
                go_ret2
                exact ⟨w.heap.size, w.heap.size + 1, G, [.int .u16 f.mach, .int .u16 f.names.length, .int .u32 f.time, .int .u32 f.place, .int .u32 f.n, .int .u16 f.optn, .int .u16 f.flags], ov, .slice sA sn sc, .slice VC f.n cc, .slice TA f.texts.length tc, bs, rfl, rfl, F9, hGj, hbs, hSj, own9, b9.out⟩
            --]X1
end Go.Proofs.YtbpebngjpecncaaGreatDoor
