/-
  The law FnPeSymbols.
-/
import Derived.Test.YthnlimhpnonnmaaDoorRRRPeSyms5
import Derived.Test.YthnlimhpnonnmaaDoorRRRPeSyms6
namespace Go.Proofs.YthnlimhpnonnmaaDoorRRR
set_option linter.unusedVariables false
set_option linter.unusedSimpArgs false
open Go Go.RowKit
attribute [local go_sem ↓] Go.wp_at_zero Go.wp_at_succ

theorem make19 (w : World) : (Instr.makeSlice 22 (.int .i64 19) (.int .i64 19)).run Tryd.prog w = .ok (.slice (some ⟨w.heap.size, 0, none⟩) 19 19) (w.alloc (.cells #[.int .u8 0, .int .u8 0, .int .u8 0, .int .u8 0, .int .u8 0, .int .u8 0, .int .u8 0, .int .u8 0, .int .u8 0, .int .u8 0, .int .u8 0, .int .u8 0, .int .u8 0, .int .u8 0, .int .u8 0, .int .u8 0, .int .u8 0, .int .u8 0, .int .u8 0] 5)) := by kernel_rfl

set_option maxRecDepth 100000 in
set_option maxHeartbeats 1000000 in
theorem one_sym (w : World) (TE TU : TypeId) (vE vU : Value) (hE : Hid (ErrsAt w TE TU vE vU)) (h3 : 3 ≤ w.heap.size) :
    Calls Tryd.prog 25 #[.int .u32 1, .int .u32 1, .slice (some ⟨w.heap.size, 0, none⟩) 19 19] (w.alloc (.cells #[.int .u8 0, .int .u8 0, .int .u8 0, .int .u8 0, .int .u8 0, .int .u8 0, .int .u8 0, .int .u8 0, .int .u8 0, .int .u8 0, .int .u8 0, .int .u8 0, .int .u8 0, .int .u8 0, .int .u8 0, .int .u8 0, .int .u8 0, .int .u8 0, .int .u8 0] 5)) fun e w' => (∃ A c, e = .returned (.tuple #[.slice A 1 c, .bool true])) ∧ Below w.heap.size w w' := by
  have hR : RB (w.alloc (.cells #[.int .u8 0, .int .u8 0, .int .u8 0, .int .u8 0, .int .u8 0, .int .u8 0, .int .u8 0, .int .u8 0, .int .u8 0, .int .u8 0, .int .u8 0, .int .u8 0, .int .u8 0, .int .u8 0, .int .u8 0, .int .u8 0, .int .u8 0, .int .u8 0, .int .u8 0] 5)) (some ⟨w.heap.size, 0, none⟩) [0, 0, 0, 0, 0, 0, 0, 0, 0, 0, 0, 0, 0, 0, 0, 0, 0, 0, 0] := RB.of_row (heap_alloc_new w (.cells #[.int .u8 0, .int .u8 0, .int .u8 0, .int .u8 0, .int .u8 0, .int .u8 0, .int .u8 0, .int .u8 0, .int .u8 0, .int .u8 0, .int .u8 0, .int .u8 0, .int .u8 0, .int .u8 0, .int .u8 0, .int .u8 0, .int .u8 0, .int .u8 0, .int .u8 0] 5))
  have b0 : Below w.heap.size w (w.alloc (.cells #[.int .u8 0, .int .u8 0, .int .u8 0, .int .u8 0, .int .u8 0, .int .u8 0, .int .u8 0, .int .u8 0, .int .u8 0, .int .u8 0, .int .u8 0, .int .u8 0, .int .u8 0, .int .u8 0, .int .u8 0, .int .u8 0, .int .u8 0, .int .u8 0, .int .u8 0] 5)) := (Below.refl w.heap.size w).alloc (Nat.le_refl _) _
  have E1 := Lib.hid (hE.out.chg (Chg.of_below (S := fun k => w.heap.size ≤ k) b0 (fun k _ h => h)) (by omega) (by omega))
  refine (implSymbols_all 1 1 (some ⟨w.heap.size, 0, none⟩) [0, 0, 0, 0, 0, 0, 0, 0, 0, 0, 0, 0, 0, 0, 0, 0, 0, 0, 0] 19 19 (w.alloc (.cells #[.int .u8 0, .int .u8 0, .int .u8 0, .int .u8 0, .int .u8 0, .int .u8 0, .int .u8 0, .int .u8 0, .int .u8 0, .int .u8 0, .int .u8 0, .int .u8 0, .int .u8 0, .int .u8 0, .int .u8 0, .int .u8 0, .int .u8 0, .int .u8 0, .int .u8 0] 5)) (by omega) (by omega) (by omega) (by omega) (by simp) rfl TE TU vE vU E1 (by simp; omega) (Lib.hid rfl) (by omega) hR).mono ?_
  rintro e w' ⟨⟨v, vs, rfl, hown, -⟩, hbl⟩
  obtain ⟨A, c, rfl, -, -, -⟩ := RT.of_owns hown.out
  exact ⟨⟨A, c, rfl⟩, b0.trans (hbl.mono (by simp))⟩

set_option maxRecDepth 100000 in
set_option maxHeartbeats 1000000 in
theorem lawSyms_zero (a0 a1 : Nat) (a2 : Option Addr) (len2 cap2 : Nat) (l : List UInt8) (w : World) (hN : Hid (len2 = l.length)) (hr : RB w a2 l) (hc : len2 ≤ cap2) (hb : len2 ≤ 1048576) (hn300 : a1 ≤ 300) (hp31 : a0 ≤ 2147483648) (TE TU : TypeId) (vE vU : Value) (hE : Hid (ErrsAt w TE TU vE vU)) (h3 : 3 ≤ w.heap.size) (hz : a0 = 0 ∨ a1 = 0) :
    Calls Tryd.prog 8 #[.int .u32 a0, .int .u16 a1, .slice a2 len2 cap2] w fun e w' => e = .returned (.bool true) ∧ Below w.heap.size w w' := by
  have hmk := make19
  have hg1 : ¬ (2147483648 : Int) < (a0 : Int) := by omega
  have hg2 : ¬ (300 : Int) < (a1 : Int) := by omega
  have hg3 : IntKind.u32.wrap (a1 : Int) = (a1 : Int) := IntWalk.u32_in _ (by omega)
  go_enter Tryd.func8, Tryd.ntmps8
  go_wp2_with fail
  refine (specSymbols_zero a0 a1 a2 len2 cap2 w hz).mono ?_
  rintro e w1 ⟨rfl, b1⟩
  have A1 := hr.later b1
  have E1 := Lib.hid (hE.out.chg (Chg.of_below (S := fun k => w.heap.size ≤ k) b1 (fun k _ h => h)) (by omega) (by omega))
  have hz1 := b1.size
  go_wp2_with fail
  refine (whole_nil _ w1).mono ?_
  rintro e w' ⟨rfl, rfl⟩
  go_wp2_with fail
  refine (implSymbols_zero a0 a1 a2 l len2 cap2 w1 hz (by omega) hN (by omega) A1).mono ?_
  rintro e w2 ⟨rfl, b2⟩
  have b12 := Lib.hid (b1.trans (b2.mono b1.size))
  have hz2 := b12.out.size
  clear b1 b2
  go_wp2
  refine wp_loop_rounds 1 ?_
  rw [rounds_succ]
  go_wp2_with fail
  refine (one_sym _ TE TU vE vU (Lib.hid (hE.out.chg (Chg.of_below (S := fun k => w.heap.size ≤ k) b12.out (fun k _ h => h)) (by omega) (by omega))) (by first | omega | (simp; omega))).mono ?_
  rintro e wz ⟨⟨AZ, cz, rfl⟩, bz⟩
  go_wp2
  go_ret
  exact ⟨rfl, b12.out.trans (bz.mono hz2)⟩

set_option maxRecDepth 100000 in
set_option maxHeartbeats 1000000 in
theorem lawSyms_short (a0 a1 : Nat) (a2 : Option Addr) (len2 cap2 : Nat) (l : List UInt8) (w : World) (hN : Hid (len2 = l.length)) (hr : RB w a2 l) (hc : len2 ≤ cap2) (hb : len2 ≤ 1048576) (hn300 : a1 ≤ 300) (hp31 : a0 ≤ 2147483648) (TE TU : TypeId) (vE vU : Value) (hE : Hid (ErrsAt w TE TU vE vU)) (h3 : 3 ≤ w.heap.size) (hpl0 : 0 < a0) (hn : 0 < a1) (hpos : l.length < a0 + 18 * a1) :
    Calls Tryd.prog 8 #[.int .u32 a0, .int .u16 a1, .slice a2 len2 cap2] w fun e w' => e = .returned (.bool true) ∧ Below w.heap.size w w' := by
  have hmk := make19
  have hg1 : ¬ (2147483648 : Int) < (a0 : Int) := by omega
  have hg2 : ¬ (300 : Int) < (a1 : Int) := by omega
  have hg3 : IntKind.u32.wrap (a1 : Int) = (a1 : Int) := IntWalk.u32_in _ (by omega)
  go_enter Tryd.func8, Tryd.ntmps8
  go_wp2_with fail
  refine (specSymbols_short a0 a1 a2 l len2 cap2 w hpl0 (by omega) hn (by omega) hN (by omega) (Lib.hid hpos)).mono ?_
  rintro e w1 ⟨rfl, b1⟩
  have A1 := hr.later b1
  have E1 := Lib.hid (hE.out.chg (Chg.of_below (S := fun k => w.heap.size ≤ k) b1 (fun k _ h => h)) (by omega) (by omega))
  have hz1 := b1.size
  have CALL := Lib.hid (implSymbols_short a0 a1 a2 l len2 cap2 w1 hpl0 (by omega) hn (by omega) hpos TE TU vE vU E1 (by omega) hN (by omega) A1)
  clear hpos
  go_wp2_with fail
  refine CALL.out.mono ?_
  rintro e w2 ⟨rfl, b2⟩
  have b12 := Lib.hid (b1.trans (b2.mono b1.size))
  have hz2 := b12.out.size
  clear b1 b2
  go_wp2
  refine wp_loop_rounds 1 ?_
  rw [rounds_succ]
  go_wp2_with fail
  refine (one_sym _ TE TU vE vU (Lib.hid (hE.out.chg (Chg.of_below (S := fun k => w.heap.size ≤ k) b12.out (fun k _ h => h)) (by omega) (by omega))) (by first | omega | (simp; omega))).mono ?_
  rintro e wz ⟨⟨AZ, cz, rfl⟩, bz⟩
  go_wp2
  go_ret
  exact ⟨rfl, b12.out.trans (bz.mono hz2)⟩

set_option maxRecDepth 100000 in
set_option maxHeartbeats 4000000 in
theorem lawSyms_all (a0 a1 : Nat) (a2 : Option Addr) (len2 cap2 : Nat) (l : List UInt8) (w : World) (hN : Hid (len2 = l.length)) (hr : RB w a2 l) (hc : len2 ≤ cap2) (hb : len2 ≤ 1048576) (hn300 : a1 ≤ 300) (hp31 : a0 ≤ 2147483648) (TE TU : TypeId) (vE vU : Value) (hE : Hid (ErrsAt w TE TU vE vU)) (h3 : 3 ≤ w.heap.size) (hpl0 : 0 < a0) (hn : 0 < a1) (hpos : Hid (a0 + 18 * a1 ≤ l.length)) :
    Calls Tryd.prog 8 #[.int .u32 a0, .int .u16 a1, .slice a2 len2 cap2] w fun e w' => e = .returned (.bool true) ∧ Below w.heap.size w w' := by
  have hmk := make19
  have hg1 : ¬ (2147483648 : Int) < (a0 : Int) := by omega
  have hg2 : ¬ (300 : Int) < (a1 : Int) := by omega
  have hg3 : IntKind.u32.wrap (a1 : Int) = (a1 : Int) := IntWalk.u32_in _ (by omega)
  go_enter Tryd.func8, Tryd.ntmps8
  go_wp2_with fail
  refine (specSymbols_all a0 a1 a2 l len2 cap2 w hpl0 (by omega) hn (by omega) hN hc (by omega) (Lib.hid hr) hpos).mono ?_
  rintro e w1 ⟨⟨v2, vs2, rfl, own2, rec2⟩, b1⟩
  have A1 := hr.later b1
  have E1 := Lib.hid (hE.out.chg (Chg.of_below (S := fun k => w.heap.size ≤ k) b1 (fun k _ h => h)) (by omega) (by omega))
  have hz1 := b1.size
  obtain ⟨g2, cp2, rfl, hcap2, -, hlt2, hcl2⟩ := owns_cellsN own2.out hn
  have hcell : Hid (∀ k, k < a1 → ∃ x : CoffL, (symSt (l.drop a0) a1).1[k]? = some x ∧ w1.cell? ⟨g2, k * 6 + 5, none⟩ = some (.int .u8 x.aux)) := Lib.hid fun k hk => by
    obtain ⟨c, x, hx, hl, ⟨A, kk, rfl, h8, hR⟩, hat⟩ := rec2.out.get hk
    exact ⟨x, hx, hcl2 (k * 6 + 5) _ (hat 5 _ rfl)⟩
  go_wp2_with fail
  refine (whole_some (l.drop a0) a1 g2 cp2 w1 (by omega) hcell).mono ?_
  rintro e w' ⟨rfl, rfl⟩
  clear hcell
  by_cases hfin : (symSt (l.drop a0) a1).2 = 0
  case neg =>
    rw [decide_eq_false hfin]
    clear hfin
    go_wp2
    go_ret
    exact ⟨rfl, b1⟩
  rw [decide_eq_true hfin]
  have CALL := Lib.hid (implSymbols_all a0 a1 a2 l len2 cap2 w1 hpl0 (by omega) hn (by omega) hpos.out hfin TE TU vE vU E1 (by omega) hN (by omega) A1)
  have h8s := Lib.hid (symSt_names (l.drop a0) a1 (by have := hpos.out; simp; omega))
  clear hfin
  go_wp2_with fail
  refine CALL.out.mono ?_
  rintro e w2 ⟨⟨v1, vs1, rfl, own1, rec1⟩, b2⟩
  have own2' := owns_later own2.out b2
  have rec2' := Lib.hid (rec2.out.mono (fun c x h => h.later b2))
  have b12 := Lib.hid (b1.trans (b2.mono b1.size))
  have hz2 := b12.out.size
  obtain ⟨g1, cap1, rfl, hcap1, -, hlt1, hcl1⟩ := owns_cellsN own1.out hn
  replace hcl2 : ∀ (j : Nat) (u : Value), vs2[j]? = some u → w2.cell? ⟨g2, j, none⟩ = some u := fun j u hu => (b2.cell (p := ⟨g2, j, none⟩) hlt2).trans (hcl2 j u hu)
  replace hlt2 : g2 < w2.heap.size := Nat.lt_of_lt_of_le hlt2 b2.size
  replace hcl1 := Lib.hid hcl1
  replace hcl2 := Lib.hid hcl2
  clear b1 b2 own1 own2 own2' rec2 A1 CALL
  go_wp2
  go_loopw [11, 61] (fun _ i wr => ∃ k : Nat, k ≤ a1 ∧ i = .int .i64 k ∧ Hid (Below w2.heap.size w2 wr)) (fun _ i _ => a1 - (intOf i).toNat)
  case atStart => exact ⟨0, Nat.zero_le _, rfl, Lib.hid (Below.refl _ _)⟩
  case round =>
    obtain ⟨k, hk, rfl, hbr⟩ := hrel
    have hzr := hbr.out.size
    by_cases hkn : k < a1
    · obtain ⟨c1, x, hx1, hl1, hR1, hat1⟩ := rec1.out.get hkn
      obtain ⟨c2, x', hx2, hl2, hR2, hat2⟩ := rec2'.out.get hkn
      obtain rfl : x = x' := Option.some.inj (hx1.symm.trans hx2)
      have h8 := Lib.hid (h8s.out x (List.mem_of_getElem? hx1))
      obtain ⟨B1, d1, rfl, -, T1⟩ := hR1
      obtain ⟨B2, d2, rfl, -, T2⟩ := hR2
      obtain ⟨nm, x1, x2, x3, x4, x5⟩ := x
      have S1 := Lib.hid (T1.later hbr.out).bytes
      have S2 := Lib.hid (T2.later hbr.out).bytes
      have e0 : wr.cell? ⟨g1, k * 6, none⟩ = some (.slice B1 8 d1) := (hbr.out.cell (p := ⟨g1, k * 6, none⟩) hlt1).trans (hcl1.out (k * 6 + 0) _ (hat1 0 _ rfl))
      have f0 : wr.cell? ⟨g2, k * 6, none⟩ = some (.slice B2 8 d2) := (hbr.out.cell (p := ⟨g2, k * 6, none⟩) hlt2).trans (hcl2.out (k * 6 + 0) _ (hat2 0 _ rfl))
      have e1 : wr.cell? ⟨g1, k * 6 + 1, none⟩ = some (.int .u32 x1) := (hbr.out.cell (p := ⟨g1, k * 6 + 1, none⟩) hlt1).trans (hcl1.out (k * 6 + 1) _ (hat1 1 _ rfl))
      have f1 : wr.cell? ⟨g2, k * 6 + 1, none⟩ = some (.int .u32 x1) := (hbr.out.cell (p := ⟨g2, k * 6 + 1, none⟩) hlt2).trans (hcl2.out (k * 6 + 1) _ (hat2 1 _ rfl))
      have e2 : wr.cell? ⟨g1, k * 6 + 2, none⟩ = some (.int .i16 x2) := (hbr.out.cell (p := ⟨g1, k * 6 + 2, none⟩) hlt1).trans (hcl1.out (k * 6 + 2) _ (hat1 2 _ rfl))
      have f2 : wr.cell? ⟨g2, k * 6 + 2, none⟩ = some (.int .i16 x2) := (hbr.out.cell (p := ⟨g2, k * 6 + 2, none⟩) hlt2).trans (hcl2.out (k * 6 + 2) _ (hat2 2 _ rfl))
      have e3 : wr.cell? ⟨g1, k * 6 + 3, none⟩ = some (.int .u16 x3) := (hbr.out.cell (p := ⟨g1, k * 6 + 3, none⟩) hlt1).trans (hcl1.out (k * 6 + 3) _ (hat1 3 _ rfl))
      have f3 : wr.cell? ⟨g2, k * 6 + 3, none⟩ = some (.int .u16 x3) := (hbr.out.cell (p := ⟨g2, k * 6 + 3, none⟩) hlt2).trans (hcl2.out (k * 6 + 3) _ (hat2 3 _ rfl))
      have e4 : wr.cell? ⟨g1, k * 6 + 4, none⟩ = some (.int .u8 x4) := (hbr.out.cell (p := ⟨g1, k * 6 + 4, none⟩) hlt1).trans (hcl1.out (k * 6 + 4) _ (hat1 4 _ rfl))
      have f4 : wr.cell? ⟨g2, k * 6 + 4, none⟩ = some (.int .u8 x4) := (hbr.out.cell (p := ⟨g2, k * 6 + 4, none⟩) hlt2).trans (hcl2.out (k * 6 + 4) _ (hat2 4 _ rfl))
      have e5 : wr.cell? ⟨g1, k * 6 + 5, none⟩ = some (.int .u8 x5) := (hbr.out.cell (p := ⟨g1, k * 6 + 5, none⟩) hlt1).trans (hcl1.out (k * 6 + 5) _ (hat1 5 _ rfl))
      have f5 : wr.cell? ⟨g2, k * 6 + 5, none⟩ = some (.int .u8 x5) := (hbr.out.cell (p := ⟨g2, k * 6 + 5, none⟩) hlt2).trans (hcl2.out (k * 6 + 5) _ (hat2 5 _ rfl))
      have hi0 : (0 : Int) ≤ (k : Int) := by omega
      have hi1 : (k : Int) < (a1 : Int) := by omega
      have hL1 : g1 < wr.heap.size := by omega
      have hL2 : g2 < wr.heap.size := by omega
      clear hx1 hx2 hat1 hat2 hl1 hl2 T1 T2
      go_wp2_with fail
      go_region_held3 (fun w' => w'.cell? ⟨g1, k * 6, none⟩ = some (.slice B1 8 d1) ∧ w'.cell? ⟨g1, k * 6 + 1, none⟩ = some (.int .u32 x1) ∧ w'.cell? ⟨g1, k * 6 + 2, none⟩ = some (.int .i16 x2) ∧ w'.cell? ⟨g1, k * 6 + 3, none⟩ = some (.int .u16 x3) ∧ w'.cell? ⟨g1, k * 6 + 4, none⟩ = some (.int .u8 x4) ∧ w'.cell? ⟨g1, k * 6 + 5, none⟩ = some (.int .u8 x5) ∧ w'.cell? ⟨g2, k * 6, none⟩ = some (.slice B2 8 d2) ∧ w'.cell? ⟨g2, k * 6 + 1, none⟩ = some (.int .u32 x1) ∧ w'.cell? ⟨g2, k * 6 + 2, none⟩ = some (.int .i16 x2) ∧ w'.cell? ⟨g2, k * 6 + 3, none⟩ = some (.int .u16 x3) ∧ w'.cell? ⟨g2, k * 6 + 4, none⟩ = some (.int .u8 x4) ∧ w'.cell? ⟨g2, k * 6 + 5, none⟩ = some (.int .u8 x5))
        (first | go_keep | (refine ⟨?_, ?_, ?_, ?_, ?_, ?_, ?_, ?_, ?_, ?_, ?_, ?_⟩ <;> refine (b3.cell ?_).trans ?_ <;> first | assumption | go_keep))
        ((go_at_call 16; refine (coffIs_yes ⟨nm, x1, x2, x3, x4, x5⟩ h8 B1 B2 d1 d2 _ (by first | exact S1 | exact Lib.hid (S1.out.drewN 1)) (by first | exact S2 | exact Lib.hid (S2.out.drewN 1))).mono ?_; rintro e w3 ⟨rfl, b3⟩; (try replace b3 := Below.undrew b3)))
      replace b3 := Lib.hid b3
      have hbr' := Lib.hid (hbr.out.trans (b3.out.mono hzr))
      go_wp2
      go_roundw
      case rel => exact ⟨k + 1, by omega, by go_num, hbr'⟩
      case measure => simp [intOf]; omega
    · obtain rfl : k = a1 := by omega
      have b9 := Lib.hid (b12.out.trans (hbr.out.mono hz2))
      go_wp2_with fail
      refine (one_sym _ TE TU vE vU (Lib.hid (hE.out.chg (Chg.of_below (S := fun k => w.heap.size ≤ k) b9.out (fun k _ h => h)) (by omega) (by omega))) (by first | omega | (simp; omega))).mono ?_
      rintro e wz ⟨⟨AZ, cz, rfl⟩, bz⟩
      go_wp2
      go_ret
      exact ⟨rfl, b9.out.trans (bz.mono (by omega))⟩

set_option maxHeartbeats 1000000 in
theorem lawSyms_off (a0 a1 : Nat) (a2 : Option Addr) (len2 cap2 : Nat) (w : World) (h : 2147483647 < len2 ∨ (len2 ≤ 2147483647 ∧ 300 < a1) ∨ (len2 ≤ 2147483647 ∧ a1 ≤ 300 ∧ 2147483648 < a0) ∨ (len2 ≤ 2147483647 ∧ a1 ≤ 300 ∧ a0 ≤ 2147483648 ∧ 1048576 < len2)) :
    Calls Tryd.prog 8 #[.int .u32 a0, .int .u16 a1, .slice a2 len2 cap2] w fun e w' => e = .returned (.bool true) ∧ Below w.heap.size w w' := by
  rcases h with h | ⟨h1, h⟩ | ⟨h1, h2, h⟩ | ⟨h1, h2, h3, h⟩
  · have g : (2147483647 : Int) < (len2 : Int) := by omega
    go_enter Tryd.func8, Tryd.ntmps8
    go_wp2
    go_ret
    exact ⟨rfl, Below.refl _ _⟩
  · have g1 : ¬ (2147483647 : Int) < (len2 : Int) := by omega
    have g : (300 : Int) < (a1 : Int) := by omega
    go_enter Tryd.func8, Tryd.ntmps8
    go_wp2
    go_ret
    exact ⟨rfl, Below.refl _ _⟩
  · have g1 : ¬ (2147483647 : Int) < (len2 : Int) := by omega
    have g2 : ¬ (300 : Int) < (a1 : Int) := by omega
    have g : (2147483648 : Int) < (a0 : Int) := by omega
    go_enter Tryd.func8, Tryd.ntmps8
    go_wp2
    go_ret
    exact ⟨rfl, Below.refl _ _⟩
  · have g1 : ¬ (2147483647 : Int) < (len2 : Int) := by omega
    have g2 : ¬ (300 : Int) < (a1 : Int) := by omega
    have g3 : ¬ (2147483648 : Int) < (a0 : Int) := by omega
    have g : (1048576 : Int) < (len2 : Int) := by omega
    go_enter Tryd.func8, Tryd.ntmps8
    go_wp2
    go_ret
    exact ⟨rfl, Below.refl _ _⟩

theorem law_FnPeSymbols (a0 a1 : Int) (a2 : Option Addr) (len2 cap2 : Nat) (z2 : List Int) (w : World) (w0 : (Lit.int .u32 a0).wf = true) (w1 : (Lit.int .u16 a1).wf = true) (w2 : IsRow .u8 w a2 len2 cap2 z2) (TE TU : TypeId) (vE vU : Value) (hErr : ErrsAt w TE TU vE vU) (h3 : 3 ≤ w.heap.size) :
    Calls Tryd.prog 8 #[.int .u32 a0, .int .u16 a1, .slice a2 len2 cap2] w fun e w' => e = .returned (.bool true) ∧ Below w.heap.size w w' := by
  obtain ⟨l, hl, hr, hc, hm⟩ := w2.bytes
  have hN := Lib.hid hl
  have hE := Lib.hid hErr
  obtain ⟨p, rfl, -⟩ := u32_wf w0
  obtain ⟨n, rfl, -⟩ := u16_wf w1
  clear hl w2 hm hErr w0 w1
  by_cases h1 : 2147483647 < len2
  · exact lawSyms_off p n a2 len2 cap2 w (.inl h1)
  by_cases h2 : 300 < n
  · exact lawSyms_off p n a2 len2 cap2 w (.inr (.inl ⟨by omega, h2⟩))
  by_cases h4 : 2147483648 < p
  · exact lawSyms_off p n a2 len2 cap2 w (.inr (.inr (.inl ⟨by omega, by omega, h4⟩)))
  by_cases h5 : 1048576 < len2
  · exact lawSyms_off p n a2 len2 cap2 w (.inr (.inr (.inr ⟨by omega, by omega, by omega, h5⟩)))
  by_cases hz : p = 0 ∨ n = 0
  · exact lawSyms_zero p n a2 len2 cap2 l w hN hr hc (by omega) (by omega) (by omega) TE TU vE vU hE h3 hz
  · by_cases hp : p + 18 * n ≤ l.length
    · exact lawSyms_all p n a2 len2 cap2 l w hN hr hc (by omega) (by omega) (by omega) TE TU vE vU hE h3 (by omega) (by omega) (Lib.hid hp)
    · exact lawSyms_short p n a2 len2 cap2 l w hN hr hc (by omega) (by omega) (by omega) TE TU vE vU hE h3 (by omega) (by omega) (by omega)
end Go.Proofs.YthnlimhpnonnmaaDoorRRR
