/-
  What NewFile calls, each in the one form that its walk asks.
  What is kept while a file is read. No program in sight.
-/
import Derived.Test.YtbpebngjpecncaaDoorPeLaid
import Derived.Test.YtbpebngjpecncaaDoorRelocsP
import Derived.Test.YtbpebngjpecncaaDoorOpt0P
import Derived.Test.YtbpebngjpecncaaDoorOpt32Q
import Derived.Test.YtbpebngjpecncaaDoorOpt64Q
import Derived.Test.YtbpebngjpecncaaDoorAtoiP
import Derived.Test.YtbpebngjpecncaaDoorRow
import Derived.Lib.AtoiErrMem
import Derived.Test.YtbpebngjpecncaaDoorPeOfT
namespace Go.Proofs.YtbpebngjpecncaaDoor
set_option linter.unusedVariables false
set_option linter.unusedSimpArgs false
set_option maxRecDepth 100000
open Go Go.RowKit
attribute [local go_sem ↓] Go.wp_at_zero Go.wp_at_succ

theorem chg_of_new {S : Nat → Prop} {w w' : World} (hb : Below w.heap.size w w') : Chg S w w' := Chg.of_below hb (fun _ hk h => absurd hk (Nat.not_lt.2 h))

/-- A value of one cell is stored. -/
theorem wpList_store_one {P : Program} {ops : Array Oper} {rest : List Oper} {op : Oper} {a : Act} {w : World} {Q : Exit → Act → World → Prop} (hgd : op.guard = none) (ty : TypeId) (x y : Operand) (ho : op.op = .store ty x y)
    (g i : Nat) (t : TypeId) (cur : List Value) (v : Value) (hx : a.eval x = .pointer (some ⟨g, i, none⟩)) (hy : a.eval y = v) (hg : w.heap[g]? = some (.cells cur.toArray t (0, 0))) (hi : i < cur.length)
    (hsz : (P.info? ty).map (·.size) = some 1) (h1 : v.oneCell' = true)
    (h : wpList P ops Q rest (a.put op.dst undef) (w.setCell ⟨g, i, none⟩ v)) : wpList P ops Q (op :: rest) a w :=
  wpList_plain hgd fun _ hK => by
    have hrun : (Instr.storeAt ty (.pointer (some ⟨g, i, none⟩)) v).run P w = .ok () (w.setCell ⟨g, i, none⟩ v) := by
      cases hq : P.info? ty with
      | none => simp [hq] at hsz
      | some inf =>
        have hs' : inf.size = 1 := by simpa [hq] using hsz
        have hcell : w.cell? ⟨g, i, none⟩ = some (cur[i]'hi) := World.cell?_of_row hg i _ (List.getElem?_eq_getElem hi)
        have hfz := frozen_of_row _ g i _ _ hg
        have hst := run_storeCells_cells (P := P) g i [v] 0 w (fun j hj => by
          obtain rfl : j = 0 := by simpa using hj
          show (w.cell? ⟨g, i + 0 + 0, none⟩).isSome = true
          rw [show w.cell? ⟨g, i + 0 + 0, none⟩ = some (cur[i]'hi) from hcell]
          rfl) (fun j hj => by
          obtain rfl : j = 0 := by simpa using hj
          exact hfz) (fun u hu => by rw [List.mem_singleton.1 hu]; exact h1)
        have hcs : v.cells.toList = [v] := by cases v <;> first | (simp [Value.oneCell'] at h1; done) | rfl
        have hcz : v.cells.size = 1 := by rw [← Array.length_toList, hcs]; rfl
        have hst' : (storeCells ⟨g, i, none⟩ [v]).run P w = .ok () (w.setCell ⟨g, i, none⟩ v) := hst
        simp [Instr.storeAt, Instr.sureAddr, storeVar, sizeOf, typeInfo, hq, hs', hcz, hcs, hst']
    unfold Oper.wp execOp
    simp only [ho, hx, hy, Sem.run_bind, hrun, Result.andThen_ok, Sem.run_pure]
    exact hK _ _ h

theorem setRow_chg (w : World) (g : Nat) (cs : Array Value) : Chg (· = g) w (w.setRow g cs) :=
  ⟨rfl, rfl, rfl, by simp [World.setRow], fun k hk hs => by
    have hs' : ¬ g = k := fun e => hs e.symm
    simp [World.setRow, Array.getElem?_modify, hs']⟩
/-- A struct is stored at a row's head. -/
theorem wpList_store_head {P : Program} {ops : Array Oper} {rest : List Oper} {op : Oper} {a : Act} {w : World} {Q : Exit → Act → World → Prop} (hgd : op.guard = none) (ty : TypeId) (x y : Operand) (ho : op.op = .store ty x y)
    (g : Nat) (t : TypeId) (cur : Array Value) (cells : Array Value) (hx : a.eval x = .pointer (some ⟨g, 0, none⟩)) (hy : a.eval y = .agg cells) (hg : w.heap[g]? = some (.cells cur t (0, 0))) (hs : cells.size ≤ cur.size)
    (hi : (P.info? ty).map (·.size) = some cells.size) (h1 : ∀ v ∈ cells.toList, v.oneCell' = true)
    (h : wpList P ops Q rest (a.put op.dst undef) (w.setRow g (cells.toList ++ cur.toList.drop cells.toList.length).toArray)) : wpList P ops Q (op :: rest) a w :=
  wpList_plain hgd fun _ hK => by
    have hrun : (Instr.storeAt ty (.pointer (some ⟨g, 0, none⟩)) (.agg cells)).run P w = .ok () (w.setRow g (cells.toList ++ cur.toList.drop cells.toList.length).toArray) := by
      cases hq : P.info? ty with
      | none => simp [hq] at hi
      | some i =>
        have hs' : i.size = cells.size := by simpa [hq] using hi
        have hst := run_storeCells_at P g 0 t cells.toList 0 cur w hg (by simp; omega) h1
        simp only [Nat.zero_add, List.take_zero, List.nil_append] at hst
        simp [Instr.storeAt, Instr.sureAddr, storeVar, sizeOf, typeInfo, hq, hs', Value.cells, hst]
    unfold Oper.wp execOp
    simp only [ho, hx, hy, Sem.run_bind, hrun, Result.andThen_ok, Sem.run_pure]
    exact hK _ _ h

/-- A number out of text: its value. -/
theorem atoi_ok (s : ByteArray) (n : Int) (hl : s.size ≤ 18) (h : Lib.atoi s.data.toList = some n) (w : World) : Calls Tryd.prog 51 #[.string s] w fun e w' => e = .returned (.tuple #[.int .i64 n, .nilIface]) ∧ Below w.heap.size w w' :=
  (Tryd.strconv_Atoi s n hl h w).mono fun e w' ⟨h1, t, h2⟩ => ⟨h1, by rw [h2]; exact Lib.bytesWorld_below w _ _⟩

set_option maxHeartbeats 1000000 in
/-- The name of a section, where it is to be found. -/
theorem secName_ok (V : Nat) (nm name : List UInt8) (post : List Value) (TV : TypeId) (A : Option Addr) (t : List UInt8) (n c : Nat) (w : World) (h8 : Hid (nm.length = 8)) (hsec : Hid (secName nm t = some name)) (hN : Hid (n = t.length)) (hc : n ≤ c) (hb : n ≤ 2147483647) (hT : Hid (RB w A t))
    (hV : Hid (w.heap[V]? = some (.cells (nm.map bv ++ post).toArray TV (0, 0)))) :
    Calls Tryd.prog 37 #[.pointer (some ⟨V, 0, none⟩), .slice A n c] w fun e w' => e = .returned (.tuple #[.string ⟨name.toArray⟩, .nilIface]) ∧ Below w.heap.size w w' := by
  obtain ⟨y0, y1, y2, y3, y4, y5, y6, y7, rfl⟩ := list8' h8.out.symm
  have c0 := cellR hV.out 0 (.int .u8 (y0.toNat : Int)) rfl
  have HR : Hid (RB w (some ⟨V, 0, none⟩) [y0, y1, y2, y3, y4, y5, y6, y7]) := Lib.hid (RB.of_mid (pre := []) (post := post) hV.out rfl 0 rfl)
  have HR1 : Hid (RB w (some ⟨V, 1, none⟩) [y1, y2, y3, y4, y5, y6, y7]) := Lib.hid (RB.of_mid (pre := [bv y0]) (post := post) hV.out rfl 1 rfl)
  clear hV h8
  by_cases h47 : y0 = 47
  · have b0 : ((y0.toNat : Int) == 47) = true := by rw [h47]; rfl
    have b0' : ((y0.toNat : Int) != 47) = false := by rw [bne, b0]; rfl
    have hs2 := hsec.out
    unfold secName at hs2
    rw [if_neg (by simp [h47])] at hs2
    have htl : Hid ((text [y1, y2, y3, y4, y5, y6, y7]).length ≤ 7) := Lib.hid (text_le _)
    have CS := Lib.hid (cstring_any (some ⟨V, 1, none⟩) [y1, y2, y3, y4, y5, y6, y7] 7 7 rfl (by omega) w HR1.out)
    have hs3 : (match Lib.atoi (text [y1, y2, y3, y4, y5, y6, y7]) with
      | none => none
      | some i => if strOk t.length (i % 4294967296).toNat then some (strAt t (i % 4294967296).toNat) else none) = some name := hs2
    obtain ⟨S, eS⟩ : ∃ S, text [y1, y2, y3, y4, y5, y6, y7] = S := ⟨_, rfl⟩
    rw [eS] at htl CS hs3
    cases hat : Lib.atoi S with
    | none => rw [hat] at hs3; simp at hs3
    | some i =>
      rw [hat] at hs3
      simp only at hs3
      have AT := Lib.hid (atoi_ok ⟨S.toArray⟩ i (by have := htl.out; show S.toArray.size ≤ 18; simp; omega) hat w)
      have hle : (i % 4294967296).toNat ≤ 4294967295 := by omega
      have hwr : IntKind.u32.wrap i = (((i % 4294967296).toNat : Nat) : Int) := by rw [IntKind.wrap_u32]; omega
      obtain ⟨m, hm⟩ : ∃ m, (i % 4294967296).toNat = m := ⟨_, rfl⟩
      rw [hm] at hs3 hle hwr
      have hok : strOk t.length m = true := by
        cases hq : strOk t.length m with
        | true => rfl
        | false => rw [hq] at hs3; simp at hs3
      rw [hok] at hs3
      have R : Hid (text (t.drop (m - 4)) = name) := Lib.hid (by simpa [strAt, hok] using hs3)
      obtain ⟨h4, hs⟩ := strOk_yes hok
      rw [← hN.out] at hs
      clear eS h47 HR HR1 hs2 hs3 hok hm hat hsec htl
      go_enter Tryd.func37, Tryd.ntmps37
      go_wp2_with fail
      refine CS.out.mono ?_
      rintro e w' ⟨rfl, rfl⟩
      go_wp2_with fail
      refine AT.out.mono ?_
      rintro e w1 ⟨rfl, b1⟩
      have T1 := hT.out.later b1
      have CALL := Lib.hid (tableString_ok A t n c m hN.out hc hb h4 hs w1 T1)
      rw [R.out] at CALL
      replace b1 := Lib.hid b1
      clear h4 hs T1
      go_wp2_with fail
      refine CALL.out.mono ?_
      rintro e w' ⟨rfl, rfl⟩
      go_wp2
      go_ret2
      exact ⟨rfl, b1.out⟩
  · have b0 : ((y0.toNat : Int) == 47) = false := by
      rw [beq_eq_false_iff_ne]
      intro e
      apply h47
      apply UInt8.toNat_inj.1
      show y0.toNat = 47
      omega
    have b0' : ((y0.toNat : Int) != 47) = true := by rw [bne, b0]; rfl
    have hs2 := hsec.out
    unfold secName at hs2
    rw [if_pos (by simp [h47])] at hs2
    have CS := Lib.hid (cstring_any (some ⟨V, 0, none⟩) [y0, y1, y2, y3, y4, y5, y6, y7] 8 8 rfl (by omega) w HR.out)
    rw [Option.some.inj hs2] at CS
    clear hs2 h47 HR HR1 hsec
    go_enter Tryd.func37, Tryd.ntmps37
    go_wp2_with fail
    refine CS.out.mono ?_
    rintro e w' ⟨rfl, rfl⟩
    go_wp2
    go_ret2
    exact ⟨rfl, Below.refl _ _⟩

/-- The optional header, whatever it is. -/
theorem optAny (M S pos : Nat) (D : Nat → Prop) (l : List UInt8) (w : World) (hR : Hid (Rdr w (secV M) M D l pos)) (ho : Hid (OptOk ((l.drop pos).take S))) (hpos : Hid (pos + S ≤ l.length)) :
    Calls Tryd.prog 35 #[secV M, .int .u16 (S : Int)] w fun e w' => (∃ v, e = .returned (.tuple #[v, .nilIface]) ∧ v.oneCell' = true) ∧ Hid (Rdr w' (secV M) M D l (pos + S)) ∧ Chg (· = M) w w' := by
  have hl : ((l.drop pos).take S).length = S := by have := hpos.out; simp; omega
  rcases ho.out with h | ⟨n, hn, h1, h2, h3⟩ | ⟨n, hn, h1, h2, h3⟩
  · obtain rfl : S = 0 := by rw [h] at hl; simpa using hl.symm
    refine (optNone M w).mono ?_
    rintro e w' ⟨rfl, hb⟩
    exact ⟨⟨_, rfl, rfl⟩, Lib.hid (hR.out.later hb), chg_of_new hb⟩
  · have hS : S = 96 + 8 * n := by omega
    have h2' : num false ((l.drop pos).take 2) = 267 := by rw [← h2, List.take_take]; congr 2; omega
    have h3' : num false ((l.drop (pos + 92)).take 4) = n := by
      have e : (l.drop (pos + 92)).take 4 = (((l.drop pos).take S).drop 92).take 4 := by
        rw [List.drop_take, List.take_take, List.drop_drop]
        congr 1
        omega
      rw [e]
      exact h3
    refine (readOptQ32 M n S pos D l w hn (Lib.hid hS) hR (Lib.hid h2') (Lib.hid h3') (Lib.hid (by have := hpos.out; omega))).mono ?_
    rintro e w' ⟨⟨T, p, rfl⟩, hr, hc⟩
    exact ⟨⟨_, rfl, rfl⟩, Lib.hid (by rw [hS, ← Nat.add_assoc]; exact hr.out), hc⟩
  · have hS : S = 112 + 8 * n := by omega
    have h2' : num false ((l.drop pos).take 2) = 523 := by rw [← h2, List.take_take]; congr 2; omega
    have h3' : num false ((l.drop (pos + 108)).take 4) = n := by
      have e : (l.drop (pos + 108)).take 4 = (((l.drop pos).take S).drop 108).take 4 := by
        rw [List.drop_take, List.take_take, List.drop_drop]
        congr 1
        omega
      rw [e]
      exact h3
    refine (readOptQ64 M n S pos D l w hn (Lib.hid hS) hR (Lib.hid h2') (Lib.hid h3') (Lib.hid (by have := hpos.out; omega))).mono ?_
    rintro e w' ⟨⟨T, p, rfl⟩, hr, hc⟩
    exact ⟨⟨_, rfl, rfl⟩, Lib.hid (by rw [hS, ← Nat.add_assoc]; exact hr.out), hc⟩

/-- The table of symbols, empty or not. -/
theorem syms_zero (H ho place M : Nat) (w : World) (hpl0 : 0 < place) (h3c : w.cell? ⟨H, ho + 3, none⟩ = some (.int .u32 place)) (h4c : w.cell? ⟨H, ho + 4, none⟩ = some (.int .u32 0)) :
    Calls Tryd.prog 33 #[.pointer (some ⟨H, ho, none⟩), (secV M)] w fun e w' => e = .returned (.tuple #[.slice none 0 0, .nilIface]) ∧ w = w' := by
  have hp0 : ((place : Int) == 0) = false := by rw [beq_eq_false_iff_ne]; omega
  go_enter Tryd.func33, Tryd.ntmps33
  go_wp2
  go_ret2
  exact ⟨rfl, rfl⟩
theorem symsAny (H ho place n : Nat) (M : Nat) (D : Nat → Prop) (l : List UInt8) (w : World) (hR : Hid (∃ pos, Rdr w (secV M) M D l pos)) (hpl0 : 0 < place) (hpl : place ≤ 4294967295) (hn' : n ≤ 65535) (hHM : H ≠ M)
    (h3c : w.cell? ⟨H, ho + 3, none⟩ = some (.int .u32 place)) (h4c : w.cell? ⟨H, ho + 4, none⟩ = some (.int .u32 n)) (hful : Hid (place + 18 * n ≤ l.length)) (hfin : Hid ((symSt (l.drop place) n).2 = 0)) :
    Calls Tryd.prog 33 #[.pointer (some ⟨H, ho, none⟩), (secV M)] w fun e w' => (∃ v, e = .returned (.tuple #[v, .nilIface]) ∧ Hid (w'.ownsRow w.heap.size 147 13 v n (symRow (l.drop place) n))) ∧ Hid (∃ p, Rdr w' (secV M) M D l p) ∧ Chg (fun k => k = M) w w' := by
  by_cases h0 : n = 0
  · subst h0
    refine (syms_zero H ho place M w hpl0 h3c h4c).mono ?_
    rintro e w' ⟨rfl, rfl⟩
    exact ⟨⟨_, rfl, Lib.hid (World.ownsRow_nil _ _ _ _)⟩, hR, Chg.refl _ _⟩
  · obtain ⟨pos, hR'⟩ := hR.out
    refine (readSymbols_any H ho place n M D l pos w (Lib.hid hR') hpl0 hpl (by omega) hn' hHM h3c h4c hful hfin).mono ?_
    rintro e w' ⟨he, hr, hc⟩
    exact ⟨he, Lib.hid ⟨_, hr.out⟩, hc⟩
/-- The symbols without the auxiliary ones, none or some. -/
theorem remAny (v : Value) (base n : Nat) (s : List UInt8) (A : Option Addr) (t : List UInt8) (tc : Nat) (w : World) (hn : n ≤ 300) (hown : Hid (w.ownsRow base 147 13 v n (symRow s n)))
    (hsy : Hid (∃ (cs : Nat → CoffL) (au : Nat → Nat), (∀ k, k < n → (symSt s n).1[k]? = some (cs k) ∧ (cs k).name.length = 8 ∧ (cs k).aux = (au k : Int) ∧ au k < 256) ∧ (∀ k, k < n → (rem au k).2 = 0 → (symRes (cs k).name t).2 = true)))
    (hT : Hid (RB w A t)) (htc : t.length ≤ tc) (htb : t.length ≤ 2147483647) :
    Calls Tryd.prog 34 #[v, .slice A t.length tc] w fun e w' => (∃ V k c, e = .returned (.tuple #[.slice V k c, .nilIface])) ∧ Below w.heap.size w w' := by
  by_cases h0 : n = 0
  · subst h0
    obtain ⟨B, c, rfl, -⟩ := RT.of_owns hown.out
    refine (remAux_nil B A c t.length tc w).mono ?_
    rintro e w' ⟨rfl, rfl⟩
    exact ⟨⟨_, _, _, rfl⟩, Below.refl _ _⟩
  · obtain ⟨cs, au, hcs, hnm⟩ := hsy.out
    obtain ⟨g, cap, rfl, -, -, hlt, hcl⟩ := owns_cellsN hown.out (by omega)
    have hall : ∀ c ∈ (symSt s n).1.map symCells, c.length = 13 := by
      intro c hc
      obtain ⟨i, hi, rfl⟩ := List.getElem_of_mem hc
      rw [List.length_map, symSt_len] at hi
      obtain ⟨h1, h2, -⟩ := hcs i hi
      have h3 : (symSt s n).1[i]'(by rw [symSt_len]; exact hi) = cs i := by
        have := List.getElem?_eq_some_iff.1 h1
        exact this.2
      rw [List.getElem_map, h3]
      simp [symCells, symTail, h2]
    refine remAux_ok g n cap cs au A t t.length tc w (by omega) hn (Lib.hid (fun k hk => (hcs k hk).2)) (Lib.hid hnm) hT.out (Lib.hid rfl) htc htb hlt (Lib.hid (fun k hk j u hu => ?_))
    refine hcl _ u ?_
    refine flatten_at _ 13 hall k (symCells (cs k)) ?_ j u hu
    rw [List.getElem?_map, (hcs k hk).1]
    rfl
/-- The relocations of a section, none or some. -/
theorem relocsAny (H ho place n : Nat) (M : Nat) (D : Nat → Prop) (l : List UInt8) (w : World) (hR : Hid (∃ pos, Rdr w (secV M) M D l pos)) (hpl : place ≤ 4294967295) (hpos : Hid (n ≠ 0 → place + 10 * n ≤ l.length)) (hn' : n ≤ 65535) (hHM : H ≠ M)
    (h5 : w.cell? ⟨H, ho + 5, none⟩ = some (.int .u32 place)) (h7 : w.cell? ⟨H, ho + 7, none⟩ = some (.int .u16 n)) :
    Calls Tryd.prog 38 #[.pointer (some ⟨H, ho, none⟩), (secV M)] w fun e w' => (∃ A k c, e = .returned (.tuple #[.slice A k c, .nilIface])) ∧ Hid (∃ p, Rdr w' (secV M) M D l p) ∧ Chg (fun k => k = M) w w' := by
  by_cases h0 : n = 0
  · subst h0
    refine (readRelocs_zero H ho (secV M) w h7).mono ?_
    rintro e w' ⟨rfl, rfl⟩
    exact ⟨⟨_, _, _, rfl⟩, hR, Chg.refl _ _⟩
  · obtain ⟨pos, hR'⟩ := hR.out
    refine (readRelocs_all H ho place n M D l pos w (Lib.hid hR') hpl (Lib.hid (hpos.out h0)) (by omega) hn' hHM h5 h7).mono ?_
    rintro e w' ⟨⟨G, rfl, -, -⟩, hr, hc⟩
    exact ⟨⟨_, _, _, rfl⟩, Lib.hid ⟨_, hr.out⟩, hc⟩

set_option maxHeartbeats 1000000 in
/-- A section of whatever reader. -/
theorem newSec (T : TypeId) (p : Addr) (off n : Nat) (ho : off ≤ 4294967295) (hn : n ≤ 4294967295) (w : World) :
    Calls Tryd.prog 27 #[.iface T (.pointer (some p)), .int .i64 (off : Int), .int .i64 (n : Int)] w fun e w' => e = .returned (.pointer (some ⟨w.heap.size, 0, none⟩)) ∧ Below w.heap.size w w' := by
  have h1 : IntKind.i64.wrap (9223372036854775807 - (n : Int)) = 9223372036854775807 - (n : Int) := IntWalk.i64_in _ (by omega)
  have h2 : (off : Int) ≤ 9223372036854775807 - (n : Int) := by omega
  go_enter Tryd.func27, Tryd.ntmps27
  go_wp2
  go_ret
  exact ⟨rfl, (Below.refl _ _).alloc (Nat.le_refl _) _⟩
theorem Tryd.infoSecP : (Tryd.prog.info? 69).map (fun i => (i.zero, i.size, i.bytes)) = some (some (.pointer none), 1, 8) := by kernel_rfl
/-- A row of so many nil pointers. -/
theorem makeSecs (Z : Nat) (hZ : Z ≤ 65535) : ∀ w, (Instr.makeSlice 73 (.int .u16 (Z : Int)) (.int .u16 (Z : Int))).run Tryd.prog w = .ok (.slice (some ⟨w.heap.size, 0, none⟩) Z Z) (w.alloc (.cells (Array.replicate Z (Value.pointer none)) 69)) := by
  obtain ⟨i0, hi, hz0, hz1, hz2⟩ := info_parts Tryd.infoSecP
  intro w
  have hr := run_make (P := Tryd.prog) w 73 69 i0 (.pointer none) Tryd.underlying73 hi hz0 .u16 .u16 Z Z (by omega) (by omega) (by rw [hz2]; omega) (by omega)
  have hf := made_flat (Value.cells (.pointer none)) Z
  have h1 : (Value.cells (.pointer none)).size = 1 := rfl
  rw [h1] at hf
  rw [hz1] at hr
  have e : madeCells (Value.cells (.pointer none)) (Z * 1) = Array.replicate Z (Value.pointer none) := by
    apply Array.toList_inj.1
    rw [hf, Array.toList_replicate]
    have : (Value.cells (.pointer none)).toList = [.pointer none] := rfl
    rw [this]
    clear hr hf
    induction Z with
    | zero => rfl
    | succ n ih => rw [List.replicate_succ, List.flatten_cons, ih (by omega)]; rfl
  simp only [Int.toNat_natCast, e] at hr
  exact hr

open Go Go.RowKit

/-- The blocks of the reader of bytes: itself, its bytes. -/
def DR (R : Nat) (A : Option Addr) (k : Nat) : Prop := k = R ∨ ∃ a, A = some a ∧ a.block = k
/-- F: the file's block; M: the section that is the whole of the reader; R: the reader; A: its bytes. -/
structure NS (w0 w : World) (F M R : Nat) (A : Option Addr) (l : List UInt8) (fr : List Value) : Prop where
  r : ∃ p, Rdr w (secV M) M (DR R A) l p
  f : w.heap[F]? = some (.cells fr.toArray 78 (0, 0))
  b : Below w0.heap.size w0 w
  lF : w0.heap.size ≤ F
  lM : w0.heap.size ≤ M
  ne : F ≠ M
  hD : ∀ k, DR R A k → k < w0.heap.size
section
variable {w0 w w' : World} {F M R : Nat} {A : Option Addr} {l : List UInt8} {fr : List Value}
theorem NS.F_lt (h : NS w0 w F M R A l fr) : F < w.heap.size := (Array.getElem?_eq_some_iff.1 h.f).1
theorem NS.M_lt (h : NS w0 w F M R A l fr) : M < w.heap.size := by obtain ⟨p, hp⟩ := h.r; exact hp.lt
/-- A call has changed the section's block alone. -/
theorem NS.chg (h : NS w0 w F M R A l fr) (hc : Chg (· = M) w w') (hr : Hid (∃ p, Rdr w' (secV M) M (DR R A) l p)) : NS w0 w' F M R A l fr :=
  ⟨hr.out, hc.row h.f h.ne, h.b.trans (hc.below h.b.size (fun k hk e => by have := h.lM; omega)), h.lF, h.lM, h.ne, h.hD⟩
theorem NS.later (h : NS w0 w F M R A l fr) (hb : Below w.heap.size w w') : NS w0 w' F M R A l fr := by
  obtain ⟨p, hp⟩ := h.r
  exact ⟨⟨p, hp.later hb⟩, (row_later hb (Lib.hid h.f)).out, h.b.trans (hb.mono h.b.size), h.lF, h.lM, h.ne, h.hD⟩
/-- Blocks of the call's own, other than these two, have changed. -/
theorem NS.chgS {S : Nat → Prop} (h : NS w0 w F M R A l fr) (hc : Chg S w w') (hF : ¬ S F) (hM : ¬ S M) (hS : ∀ k, S k → w0.heap.size ≤ k) : NS w0 w' F M R A l fr := by
  obtain ⟨p, hp⟩ := h.r
  exact ⟨⟨p, hp.chg hc hM (fun k hk e => by have := h.hD k hk; have := hS k e; omega)⟩, hc.row h.f hF, h.b.trans (hc.below h.b.size (fun k hk e => by have := hS k e; omega)), h.lF, h.lM, h.ne, h.hD⟩
/-- A cell of the file's struct is stored. -/
theorem NS.set (h : NS w0 w F M R A l fr) (i : Nat) (x : Value) : NS w0 (w.setCell ⟨F, i, none⟩ x) F M R A l (fr.set i x) := by
  have C := (Chg.refl (· = F) w).setCell ⟨F, i, none⟩ x (.inl rfl)
  obtain ⟨p, hp⟩ := h.r
  refine ⟨⟨p, hp.chg C (fun e => h.ne e.symm) (fun k hk e => by have := h.hD k hk; have := h.lF; omega)⟩, ?_, h.b.trans (C.below h.b.size (fun k hk e => by have := h.lF; omega)), h.lF, h.lM, h.ne, h.hD⟩
  rw [heap_setCell_same w F i _ _ _ h.f, List.setIfInBounds_toArray]
end
/-- The reader keeps its place. -/
theorem NS.rdrS {S : Nat → Prop} {w0 w w' : World} {F M R : Nat} {A : Option Addr} {l : List UInt8} {fr : List Value} {p : Nat} (h : NS w0 w F M R A l fr) (hr : Rdr w (secV M) M (DR R A) l p) (hc : Chg S w w') (hM : ¬ S M) (hS : ∀ k, S k → w0.heap.size ≤ k) : Rdr w' (secV M) M (DR R A) l p :=
  hr.chg hc hM (fun k hk e => by have := h.hD k hk; have := hS k e; omega)
theorem NS.rdrF {w0 w : World} {F M R : Nat} {A : Option Addr} {l : List UInt8} {fr : List Value} {p : Nat} (h : NS w0 w F M R A l fr) (hr : Rdr w (secV M) M (DR R A) l p) (i : Nat) (x : Value) : Rdr (w.setCell ⟨F, i, none⟩ x) (secV M) M (DR R A) l p :=
  h.rdrS hr ((Chg.refl (· = F) w).setCell ⟨F, i, none⟩ x (.inl rfl)) (fun e => h.ne e.symm) (fun k e => by have e' : k = F := e; have := h.lF; omega)
/-- Ten cells at a row's head are stored. -/
theorem row10 (v0 v1 v2 v3 v4 v5 v6 v7 v8 v9 u0 u1 u2 u3 u4 u5 u6 u7 u8 u9 z0 z1 z2 : Value) (b : Nat) (w : World) (T : TypeId) (h : w.heap[b]? = some (.cells ([u0, u1, u2, u3, u4, u5, u6, u7, u8, u9, z0, z1, z2] : List Value).toArray T (0, 0))) :
    ((((((((((w.setCell ⟨b, 0, none⟩ v0).setCell ⟨b, 1, none⟩ v1).setCell ⟨b, 2, none⟩ v2).setCell ⟨b, 3, none⟩ v3).setCell ⟨b, 4, none⟩ v4).setCell ⟨b, 5, none⟩ v5).setCell ⟨b, 6, none⟩ v6).setCell ⟨b, 7, none⟩ v7).setCell ⟨b, 8, none⟩ v8).setCell ⟨b, 9, none⟩ v9).heap[b]? = some (.cells ([v0, v1, v2, v3, v4, v5, v6, v7, v8, v9, z0, z1, z2] : List Value).toArray T (0, 0)) := by
  have h0 := heap_setCell_same _ b 0 _ _ v0 h
  rw [List.setIfInBounds_toArray] at h0
  have h1 := heap_setCell_same _ b 1 _ _ v1 h0
  rw [List.setIfInBounds_toArray] at h1
  have h2 := heap_setCell_same _ b 2 _ _ v2 h1
  rw [List.setIfInBounds_toArray] at h2
  have h3 := heap_setCell_same _ b 3 _ _ v3 h2
  rw [List.setIfInBounds_toArray] at h3
  have h4 := heap_setCell_same _ b 4 _ _ v4 h3
  rw [List.setIfInBounds_toArray] at h4
  have h5 := heap_setCell_same _ b 5 _ _ v5 h4
  rw [List.setIfInBounds_toArray] at h5
  have h6 := heap_setCell_same _ b 6 _ _ v6 h5
  rw [List.setIfInBounds_toArray] at h6
  have h7 := heap_setCell_same _ b 7 _ _ v7 h6
  rw [List.setIfInBounds_toArray] at h7
  have h8 := heap_setCell_same _ b 8 _ _ v8 h7
  rw [List.setIfInBounds_toArray] at h8
  have h9 := heap_setCell_same _ b 9 _ _ v9 h8
  rw [List.setIfInBounds_toArray] at h9
  exact h9
theorem chg10 (v0 v1 v2 v3 v4 v5 v6 v7 v8 v9 : Value) (b : Nat) (w : World) : Chg (· = b) w ((((((((((w.setCell ⟨b, 0, none⟩ v0).setCell ⟨b, 1, none⟩ v1).setCell ⟨b, 2, none⟩ v2).setCell ⟨b, 3, none⟩ v3).setCell ⟨b, 4, none⟩ v4).setCell ⟨b, 5, none⟩ v5).setCell ⟨b, 6, none⟩ v6).setCell ⟨b, 7, none⟩ v7).setCell ⟨b, 8, none⟩ v8).setCell ⟨b, 9, none⟩ v9) :=
  ((((((((((Chg.refl (· = b) w).setCell ⟨b, 0, none⟩ v0 (.inl rfl)).setCell ⟨b, 1, none⟩ v1 (.inl rfl)).setCell ⟨b, 2, none⟩ v2 (.inl rfl)).setCell ⟨b, 3, none⟩ v3 (.inl rfl)).setCell ⟨b, 4, none⟩ v4 (.inl rfl)).setCell ⟨b, 5, none⟩ v5 (.inl rfl)).setCell ⟨b, 6, none⟩ v6 (.inl rfl)).setCell ⟨b, 7, none⟩ v7 (.inl rfl)).setCell ⟨b, 8, none⟩ v8 (.inl rfl)).setCell ⟨b, 9, none⟩ v9 (.inl rfl)
/-- The text of names is there, apart from what the call writes. -/
structure TX (w : World) (F M : Nat) (T : Option Addr) (t : List UInt8) : Prop where
  rb : RB w T t
  at_ : t ≠ [] → ∀ a, T = some a → a.block ≠ F ∧ a.block ≠ M ∧ a.block < w.heap.size
theorem TX.chgS {S : Nat → Prop} {w w' : World} {F M : Nat} {T : Option Addr} {t : List UInt8} (h : TX w F M T t) (hc : Chg S w w') (hS : ∀ k, S k → k = F ∨ k = M ∨ w.heap.size ≤ k) : TX w' F M T t := by
  by_cases ht : t = []
  · subst ht
    exact ⟨RB.nil _ _, fun h => absurd rfl h⟩
  · refine ⟨h.rb.chg hc (fun a ha e => ?_), fun _ a ha => ?_⟩
    · obtain ⟨h2, h3, h4⟩ := h.at_ ht a ha
      rcases hS _ e with e | e | e
      · exact h2 e
      · exact h3 e
      · omega
    · obtain ⟨h2, h3, h4⟩ := h.at_ ht a ha
      exact ⟨h2, h3, Nat.lt_of_lt_of_le h4 hc.size⟩
theorem TX.later {w w' : World} {F M : Nat} {T : Option Addr} {t : List UInt8} (h : TX w F M T t) (hb : Below w.heap.size w w') : TX w' F M T t :=
  h.chgS (S := fun k => w.heap.size ≤ k) (Chg.of_below hb (fun _ _ h => h)) (fun k h => .inr (.inr h))
theorem TX.new {w w' : World} {F M : Nat} {T : Option Addr} {t : List UInt8} (hr : RB w' T t) (hn : ∀ a, T = some a → w.heap.size ≤ a.block) (hF : F < w.heap.size) (hM : M < w.heap.size) : TX w' F M T t :=
  ⟨hr, fun ht a ha => by
    have h0 := hn a ha
    have hp : 0 < t.length := List.length_pos_iff.2 ht
    obtain ⟨b, o, e⟩ := hr.addr hp
    rw [e] at hr
    have h2 := hr.lt hp
    rw [ha] at e
    simp only [Option.some.injEq] at e
    subst e
    exact ⟨by have h0' : w.heap.size ≤ b := h0; show b ≠ F; omega, by have h0' : w.heap.size ≤ b := h0; show b ≠ M; omega, h2⟩⟩
/-- The symbols that were read are there, behind the file's block and the section's. -/
structure CO (w0 w : World) (F M : Nat) (v : Value) (n : Nat) (vs : List Value) : Prop where
  own : ∃ B, w.ownsRow B 147 13 v n vs ∧ F < B ∧ M < B ∧ w0.heap.size ≤ B
theorem CO.chgS {S : Nat → Prop} {w0 w w' : World} {F M : Nat} {v : Value} {n : Nat} {vs : List Value} (h : CO w0 w F M v n vs) (hc : Chg S w w') (hS : ∀ k, S k → k = F ∨ k = M ∨ w.heap.size ≤ k) : CO w0 w' F M v n vs := by
  obtain ⟨B, h1, h2, h3, h4⟩ := h.own
  exact ⟨B, owns_chg h1 hc (fun k hk e => by
    have := h1.lt k hk
    rcases hS k e with e | e | e <;> omega), h2, h3, h4⟩
theorem CO.later {w0 w w' : World} {F M : Nat} {v : Value} {n : Nat} {vs : List Value} (h : CO w0 w F M v n vs) (hb : Below w.heap.size w w') : CO w0 w' F M v n vs :=
  h.chgS (S := fun k => w.heap.size ≤ k) (Chg.of_below hb (fun _ _ h => h)) (fun k h => .inr (.inr h))

/-- Another block of the call's own is written. -/
theorem TX.other {w w' : World} {F M G : Nat} {T : Option Addr} {t : List UInt8} (h : TX w F M T t) (hc : Chg (· = G) w w') (hG : t ≠ [] → ∀ a, T = some a → a.block ≠ G) : TX w' F M T t := by
  by_cases ht : t = []
  · subst ht
    exact ⟨RB.nil _ _, fun h => absurd rfl h⟩
  · exact ⟨h.rb.chg hc (fun a ha e => hG ht a ha e), fun _ a ha => by
      obtain ⟨h2, h3, h4⟩ := h.at_ ht a ha
      exact ⟨h2, h3, Nat.lt_of_lt_of_le h4 hc.size⟩⟩
theorem CO.keeps {e : TypeId} {w0 w w' : World} {F M : Nat} {v : Value} {n : Nat} {vs : List Value} (h : CO w0 w F M v n vs) (hk : Keeps e w w') (hne : 147 ≠ e) : CO w0 w' F M v n vs := by
  obtain ⟨B, h1, h2⟩ := h.own
  exact ⟨B, owns_keeps h1 hk hne, h2⟩
theorem set_push (p : Nat → Value) (z : Value) (bs : List Nat) (S n : Nat) (h : bs.length < n) : (bs.map p ++ List.replicate (n - bs.length) z).set bs.length (p S) = (bs ++ [S]).map p ++ List.replicate (n - (bs.length + 1)) z := by
  rw [List.set_append_right _ _ (by simp), List.length_map, Nat.sub_self, show n - bs.length = (n - (bs.length + 1)) + 1 by omega, List.replicate_succ, List.set_cons_zero, List.map_append, List.append_assoc]
  rfl
/-- A section that has been read: its name, where its relocations stand. -/
def SecAt (w : World) (S : Nat) (name : List UInt8) (v4 v6 : Nat) : Prop :=
  ∃ x1 x2 x3 x4 x6 x8 x9 x10 x11 x12 : Value, w.heap[S]? = some (.cells ([.string ⟨name.toArray⟩, x1, x2, x3, x4, .int .u32 v4, x6, .int .u16 v6, x8, x9, x10, x11, x12] : List Value).toArray 92 (0, 0))
/-- The sections that have been read: their blocks, one a name. -/
structure SECS (w0 w : World) (F M G : Nat) (l : List UInt8) (names : List (List UInt8)) (bs : List Nat) : Prop where
  len : bs.length ≤ names.length
  sec : ∀ (k : Nat) (S : Nat) (name : List UInt8), bs[k]? = some S → names[k]? = some name → ∃ v4 v6 : Nat, SecAt w S name v4 v6 ∧ v4 < 4294967296 ∧ v6 < 65536 ∧ (v6 ≠ 0 → v4 + 10 * v6 ≤ l.length)
  at_ : ∀ S ∈ bs, w0.heap.size ≤ S ∧ S < w.heap.size ∧ S ≠ F ∧ S ≠ M ∧ S ≠ G
theorem SecAt.chg {P : Nat → Prop} {w w' : World} {S : Nat} {name : List UInt8} {v4 v6 : Nat} (h : SecAt w S name v4 v6) (hc : Chg P w w') (hS : ¬ P S) : SecAt w' S name v4 v6 := by
  obtain ⟨x1, x2, x3, x4, x6, x8, x9, x10, x11, x12, h⟩ := h
  exact ⟨x1, x2, x3, x4, x6, x8, x9, x10, x11, x12, hc.row h hS⟩
theorem SECS.chg {P : Nat → Prop} {w0 w w' : World} {F M G : Nat} {l : List UInt8} {names : List (List UInt8)} {bs : List Nat} (h : SECS w0 w F M G l names bs) (hc : Chg P w w') (hP : ∀ k, P k → k = F ∨ k = M ∨ k = G ∨ w.heap.size ≤ k) : SECS w0 w' F M G l names bs :=
  ⟨h.len, fun k S name hS hn => by
    obtain ⟨v4, v6, h1, h2⟩ := h.sec k S name hS hn
    obtain ⟨_, h3, h4, h5, h6⟩ := h.at_ S (List.mem_of_getElem? hS)
    exact ⟨v4, v6, h1.chg hc (fun e => by rcases hP S e with e | e | e | e <;> omega), h2⟩, fun S hS => by
    obtain ⟨a, b, c⟩ := h.at_ S hS
    exact ⟨a, Nat.lt_of_lt_of_le b hc.size, c⟩⟩
theorem SECS.push {w0 w : World} {F M G : Nat} {l : List UInt8} {names : List (List UInt8)} {bs : List Nat} (h : SECS w0 w F M G l names bs) {S : Nat} {name : List UInt8} {v4 v6 : Nat} (hn : names[bs.length]? = some name) (hs : SecAt w S name v4 v6) (h4 : v4 < 4294967296) (h6 : v6 < 65536) (hr : v6 ≠ 0 → v4 + 10 * v6 ≤ l.length) (h0 : w0.heap.size ≤ S) (hF : S ≠ F) (hM : S ≠ M) (hG : S ≠ G) : SECS w0 w F M G l names (bs ++ [S]) := by
  have hlt : S < w.heap.size := by
    obtain ⟨x1, x2, x3, x4, x6, x8, x9, x10, x11, x12, g⟩ := hs
    exact (Array.getElem?_eq_some_iff.1 g).1
  refine ⟨by have := (List.getElem?_eq_some_iff.1 hn).1; simp; omega, fun k S' nm hS' hnm => ?_, fun S' hS' => ?_⟩
  · by_cases hk : k < bs.length
    · rw [List.getElem?_append_left hk] at hS'
      exact h.sec k S' nm hS' hnm
    · rw [List.getElem?_append_right (by omega)] at hS'
      have hk0 : k - bs.length = 0 := by
        have := (List.getElem?_eq_some_iff.1 hS').1
        simp at this
        omega
      obtain rfl : k = bs.length := by omega
      rw [Nat.sub_self] at hS'
      obtain rfl : S = S' := by simpa using hS'
      rw [hn] at hnm
      obtain rfl := Option.some.inj hnm
      exact ⟨v4, v6, hs, h4, h6, hr⟩
  · rcases List.mem_append.1 hS' with h' | h'
    · exact h.at_ S' h'
    · obtain rfl := List.mem_singleton.1 h'
      exact ⟨h0, hlt, hF, hM, hG⟩
/-- One section's relocations are stored. -/
theorem SECS.poke {w0 w : World} {F M G : Nat} {l : List UInt8} {names : List (List UInt8)} {bs : List Nat} (h : SECS w0 w F M G l names bs) {S0 : Nat} (x : Value) : SECS w0 (w.setCell ⟨S0, 10, none⟩ x) F M G l names bs := by
  have C := (Chg.refl (· = S0) w).setCell ⟨S0, 10, none⟩ x (.inl rfl)
  refine ⟨h.len, fun k S name hS hn => ?_, fun S hS => by obtain ⟨a, b, c⟩ := h.at_ S hS; exact ⟨a, Nat.lt_of_lt_of_le b C.size, c⟩⟩
  obtain ⟨v4, v6, h1, h2⟩ := h.sec k S name hS hn
  refine ⟨v4, v6, ?_, h2⟩
  by_cases e : S = S0
  · subst e
    obtain ⟨x1, x2, x3, x4, x6, x8, x9, x10, x11, x12, g⟩ := h1
    exact ⟨x1, x2, x3, x4, x6, x8, x9, x, x11, x12, by rw [heap_setCell_same w S 10 _ _ _ g]; rfl⟩
  · exact h1.chg C e
/-- What NewFile answers. -/
def FilePost (w : World) (l : List UInt8) (f : FL) (e : Ending) (w' : World) : Prop :=
  ∃ (F M G : Nat) (hd : List Value) (ov sy cv tv : Value) (bs : List Nat), e = .returned (.tuple #[.pointer (some ⟨F, 0, none⟩), .nilIface]) ∧ hd.length = 7 ∧
    Hid (w'.heap[F]? = some (.cells (hd ++ ([ov, .slice (some ⟨G, 0, none⟩) f.names.length f.names.length, sy, cv, tv] : List Value)).toArray 78 (0, 0))) ∧
    Hid (w'.heap[G]? = some (.cells ((bs.map fun S => Value.pointer (some ⟨S, 0, none⟩))).toArray 69 (0, 0))) ∧ Hid (bs.length = f.names.length) ∧
    Hid (SECS w w' F M G l f.names bs) ∧ Hid (w'.ownsRow w.heap.size 147 13 cv f.n (symRow (l.drop f.place) f.n)) ∧ Below w.heap.size w w'
end Go.Proofs.YtbpebngjpecncaaDoor
