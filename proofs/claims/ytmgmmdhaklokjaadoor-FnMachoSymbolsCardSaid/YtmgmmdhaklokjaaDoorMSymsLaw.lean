/-
  The walk of the law FnMachoSymbols.
-/
import Derived.Test.YtmgmmdhaklokjaaDoorMSyms4
namespace Go.Proofs.YtmgmmdhaklokjaaDoor
set_option linter.unusedVariables false
set_option linter.unusedSimpArgs false
open Go Go.RowKit
attribute [local go_sem ↓] Go.wp_at_zero Go.wp_at_succ

theorem make16 (w : World) : (Instr.makeSlice 23 (.int .i64 16) (.int .i64 16)).run Tryd.prog w = .ok (.slice (some ⟨w.heap.size, 0, none⟩) 16 16) (w.alloc (.cells #[.int .u8 0, .int .u8 0, .int .u8 0, .int .u8 0, .int .u8 0, .int .u8 0, .int .u8 0, .int .u8 0, .int .u8 0, .int .u8 0, .int .u8 0, .int .u8 0, .int .u8 0, .int .u8 0, .int .u8 0, .int .u8 0] 5)) := by kernel_rfl
theorem zero_good (wide big : Bool) : mGood wide big [0, 0, 0, 0, 0, 0, 0, 0, 0, 0, 0, 0, 0, 0, 0, 0] [0] 0 = true := by cases wide <;> cases big <;> decide

theorem specSyms_any (wide big : Bool) (n : Nat) (A : Option Addr) (s : List UInt8) (ls cs : Nat) (B : Option Addr) (t : List UInt8) (lt ct : Nat) (w : World) (hn : n ≤ 65535)
    (hS : Hid (ls = s.length)) (hcs : ls ≤ cs) (hls : ls ≤ 2147483647) (hA : Hid (RB w A s)) (hT : Hid (lt = t.length)) (hct : lt ≤ ct) (hlt : lt ≤ 2147483647) (hB : Hid (RB w B t)) :
    Calls Tryd.prog 8 #[.bool wide, .bool big, .int .i64 n, .slice A ls cs, .slice B lt ct] w fun e w' => SPost wide big s t n w e w' ∧ Below w.heap.size w w' := by
  cases wide with
  | true => exact specSyms_wide big n A s ls cs B t lt ct w hn hS hcs hls hA hT hct hlt hB
  | false => exact specSyms_narrow big n A s ls cs B t lt ct w hn hS hcs hls hA hT hct hlt hB

set_option maxHeartbeats 1000000 in
theorem one_sym (wide big : Bool) (w : World) (TE TU : TypeId) (vE vU : Value) (hE : Hid (ErrsAt w TE TU vE vU)) (h3 : 3 ≤ w.heap.size) :
    Calls Tryd.prog 7 #[.bool wide, .bool big, .int .u32 1, .slice (some ⟨w.heap.size, 0, none⟩) 16 16, .slice (some ⟨w.heap.size + 1, 0, none⟩) 1 1] ((w.alloc (.cells #[.int .u8 0, .int .u8 0, .int .u8 0, .int .u8 0, .int .u8 0, .int .u8 0, .int .u8 0, .int .u8 0, .int .u8 0, .int .u8 0, .int .u8 0, .int .u8 0, .int .u8 0, .int .u8 0, .int .u8 0, .int .u8 0] 5)).alloc (.cells #[.int .u8 0] 5)) fun e w' => (∃ A c, e = .returned (.tuple #[.slice A 1 c, .bool true])) ∧ Below w.heap.size w w' := by
  have b0 : Below w.heap.size w (w.alloc (.cells #[.int .u8 0, .int .u8 0, .int .u8 0, .int .u8 0, .int .u8 0, .int .u8 0, .int .u8 0, .int .u8 0, .int .u8 0, .int .u8 0, .int .u8 0, .int .u8 0, .int .u8 0, .int .u8 0, .int .u8 0, .int .u8 0] 5)) := (Below.refl w.heap.size w).alloc (Nat.le_refl _) _
  have b1 : Below w.heap.size w ((w.alloc (.cells #[.int .u8 0, .int .u8 0, .int .u8 0, .int .u8 0, .int .u8 0, .int .u8 0, .int .u8 0, .int .u8 0, .int .u8 0, .int .u8 0, .int .u8 0, .int .u8 0, .int .u8 0, .int .u8 0, .int .u8 0, .int .u8 0] 5)).alloc (.cells #[.int .u8 0] 5)) := b0.alloc (by simp) _
  have hR0 : RB (w.alloc (.cells #[.int .u8 0, .int .u8 0, .int .u8 0, .int .u8 0, .int .u8 0, .int .u8 0, .int .u8 0, .int .u8 0, .int .u8 0, .int .u8 0, .int .u8 0, .int .u8 0, .int .u8 0, .int .u8 0, .int .u8 0, .int .u8 0] 5)) (some ⟨w.heap.size, 0, none⟩) [0, 0, 0, 0, 0, 0, 0, 0, 0, 0, 0, 0, 0, 0, 0, 0] := RB.of_row (heap_alloc_new w (.cells #[.int .u8 0, .int .u8 0, .int .u8 0, .int .u8 0, .int .u8 0, .int .u8 0, .int .u8 0, .int .u8 0, .int .u8 0, .int .u8 0, .int .u8 0, .int .u8 0, .int .u8 0, .int .u8 0, .int .u8 0, .int .u8 0] 5))
  have hR := hR0.later ((Below.refl _ _).alloc (Nat.le_refl _) (.cells #[.int .u8 0] 5))
  have hT : RB ((w.alloc (.cells #[.int .u8 0, .int .u8 0, .int .u8 0, .int .u8 0, .int .u8 0, .int .u8 0, .int .u8 0, .int .u8 0, .int .u8 0, .int .u8 0, .int .u8 0, .int .u8 0, .int .u8 0, .int .u8 0, .int .u8 0, .int .u8 0] 5)).alloc (.cells #[.int .u8 0] 5)) (some ⟨w.heap.size + 1, 0, none⟩) [0] := RB.of_row (by
    have := heap_alloc_new (w.alloc (.cells #[.int .u8 0, .int .u8 0, .int .u8 0, .int .u8 0, .int .u8 0, .int .u8 0, .int .u8 0, .int .u8 0, .int .u8 0, .int .u8 0, .int .u8 0, .int .u8 0, .int .u8 0, .int .u8 0, .int .u8 0, .int .u8 0] 5)) (.cells #[.int .u8 0] 5)
    rwa [World.size_alloc] at this)
  have E1 := Lib.hid (hE.out.chg (Chg.of_below (S := fun k => w.heap.size ≤ k) b1 (fun k _ h => h)) (by omega) (by omega))
  refine (implSyms_any wide big 1 (some ⟨w.heap.size, 0, none⟩) [0, 0, 0, 0, 0, 0, 0, 0, 0, 0, 0, 0, 0, 0, 0, 0] 16 16 (some ⟨w.heap.size + 1, 0, none⟩) [0] 1 1 ((w.alloc (.cells #[.int .u8 0, .int .u8 0, .int .u8 0, .int .u8 0, .int .u8 0, .int .u8 0, .int .u8 0, .int .u8 0, .int .u8 0, .int .u8 0, .int .u8 0, .int .u8 0, .int .u8 0, .int .u8 0, .int .u8 0, .int .u8 0] 5)).alloc (.cells #[.int .u8 0] 5)) (by omega) (Lib.hid rfl) (by omega) hR (Lib.hid rfl) (by omega) hT (by simp; omega) TE TU vE vU E1).mono ?_
  rintro e w' ⟨hp, hbl⟩
  rcases hp with ⟨-, v, rfl, hown⟩ | ⟨⟨k, hk, hbad⟩, -⟩
  · obtain ⟨A, c, rfl, -⟩ := syms_at hown.out
    exact ⟨⟨A, c, rfl⟩, b1.trans (hbl.mono (by simp; omega))⟩
  · obtain rfl : k = 0 := by omega
    rw [zero_good] at hbad
    cases hbad

set_option maxRecDepth 100000 in
set_option maxHeartbeats 4000000 in
theorem lawSyms (wide big : Bool) (n : Nat) (A : Option Addr) (s : List UInt8) (ls cs : Nat) (B : Option Addr) (t : List UInt8) (lt ct : Nat) (w : World) (hn : n ≤ 300) (hls : ls ≤ 1048576) (hlt : lt ≤ 1048576)
    (hS : Hid (ls = s.length)) (hcs : ls ≤ cs) (hA : RB w A s) (hT : Hid (lt = t.length)) (hct : lt ≤ ct) (hB : RB w B t) (h3 : 3 ≤ w.heap.size) (TE TU : TypeId) (vE vU : Value) (hErr : Hid (ErrsAt w TE TU vE vU)) :
    Calls Tryd.prog 3 #[.bool wide, .bool big, .int .u16 n, .slice A ls cs, .slice B lt ct] w fun e w' => e = .returned (.bool true) ∧ Below w.heap.size w w' := by
  have hmk := make16
  have hg2 : ¬ (300 : Int) < (n : Int) := by omega
  have hg3 : IntKind.u32.wrap (n : Int) = (n : Int) := IntWalk.u32_in _ (by omega)
  have hg4 : IntKind.i64.wrap (n : Int) = (n : Int) := IntWalk.i64_in _ (by omega)
  go_enter Tryd.func3, Tryd.ntmps3
  go_wp2_with fail
  refine (implSyms_any wide big n A s ls cs B t lt ct w (by omega) hS (by omega) hA hT (by omega) hB h3 TE TU vE vU hErr).mono ?_
  rintro e w1 ⟨hp, b1⟩
  have A1 := Lib.hid (hA.later b1)
  have B1 := Lib.hid (hB.later b1)
  have hz1 := b1.size
  have CALL := Lib.hid (specSyms_any wide big n A s ls cs B t lt ct w1 (by omega) hS hcs (by omega) A1 hT hct (by omega) B1)
  clear A1 B1
  rcases hp with ⟨hall, v, rfl, own1⟩ | ⟨hbad, rfl⟩
  · obtain ⟨G1, d1, rfl, hG1⟩ := syms_at own1.out
    replace hG1 := Lib.hid hG1
    replace hall := Lib.hid hall
    clear own1
    go_wp2_with fail
    refine CALL.out.mono ?_
    rintro e w2 ⟨hp2, b2⟩
    have b12 := Lib.hid (b1.trans (b2.mono hz1))
    have hz2 := b12.out.size
    have hz12 := b2.size
    replace b2 := Lib.hid b2
    clear CALL b1
    rcases hp2 with ⟨-, v2, rfl, own2⟩ | ⟨⟨k, hk, hb⟩, -⟩
    · obtain ⟨G2, d2, rfl, hG2⟩ := syms_at own2.out
      replace hG2 := Lib.hid hG2
      clear own2 hall
      go_wp2
      go_loopw [70] (fun i wr => ∃ k : Nat, k ≤ n ∧ i = .int .i64 k ∧ Hid (Below w2.heap.size w2 wr)) (fun i _ => n - (intOf i).toNat)
      case atStart => exact ⟨0, Nat.zero_le _, rfl, Lib.hid (Below.refl _ _)⟩
      case round =>
        obtain ⟨k, hk, rfl, hbr⟩ := hrel
        have hzr := hbr.out.size
        by_cases hkn : k < n
        · obtain ⟨g1, rfl, -, hlt1, hc1⟩ := hG1.out k hkn
          obtain ⟨g2, rfl, -, hlt2, hc2⟩ := hG2.out k hkn
          obtain ⟨nb, ty, se, de, va, hx⟩ := mCells_form wide big s t k
          rw [hx] at hc1 hc2
          clear hx
          have e0 : wr.cell? ⟨g1, k * 5, none⟩ = some (.string nb) := (hbr.out.cell (p := ⟨g1, k * 5 + 0, none⟩) (by simp only; omega)).trans ((b2.out.cell (p := ⟨g1, k * 5 + 0, none⟩) hlt1).trans (hc1 0 _ rfl))
          have f0 : wr.cell? ⟨g2, k * 5, none⟩ = some (.string nb) := (hbr.out.cell (p := ⟨g2, k * 5 + 0, none⟩) hlt2).trans (hc2 0 _ rfl)
          have e1 : wr.cell? ⟨g1, k * 5 + 1, none⟩ = some (.int .u8 ty) := (hbr.out.cell (p := ⟨g1, k * 5 + 1, none⟩) (by simp only; omega)).trans ((b2.out.cell (p := ⟨g1, k * 5 + 1, none⟩) hlt1).trans (hc1 1 _ rfl))
          have f1 : wr.cell? ⟨g2, k * 5 + 1, none⟩ = some (.int .u8 ty) := (hbr.out.cell (p := ⟨g2, k * 5 + 1, none⟩) hlt2).trans (hc2 1 _ rfl)
          have e2 : wr.cell? ⟨g1, k * 5 + 2, none⟩ = some (.int .u8 se) := (hbr.out.cell (p := ⟨g1, k * 5 + 2, none⟩) (by simp only; omega)).trans ((b2.out.cell (p := ⟨g1, k * 5 + 2, none⟩) hlt1).trans (hc1 2 _ rfl))
          have f2 : wr.cell? ⟨g2, k * 5 + 2, none⟩ = some (.int .u8 se) := (hbr.out.cell (p := ⟨g2, k * 5 + 2, none⟩) hlt2).trans (hc2 2 _ rfl)
          have e3 : wr.cell? ⟨g1, k * 5 + 3, none⟩ = some (.int .u16 de) := (hbr.out.cell (p := ⟨g1, k * 5 + 3, none⟩) (by simp only; omega)).trans ((b2.out.cell (p := ⟨g1, k * 5 + 3, none⟩) hlt1).trans (hc1 3 _ rfl))
          have f3 : wr.cell? ⟨g2, k * 5 + 3, none⟩ = some (.int .u16 de) := (hbr.out.cell (p := ⟨g2, k * 5 + 3, none⟩) hlt2).trans (hc2 3 _ rfl)
          have e4 : wr.cell? ⟨g1, k * 5 + 4, none⟩ = some (.int .u64 va) := (hbr.out.cell (p := ⟨g1, k * 5 + 4, none⟩) (by simp only; omega)).trans ((b2.out.cell (p := ⟨g1, k * 5 + 4, none⟩) hlt1).trans (hc1 4 _ rfl))
          have f4 : wr.cell? ⟨g2, k * 5 + 4, none⟩ = some (.int .u64 va) := (hbr.out.cell (p := ⟨g2, k * 5 + 4, none⟩) hlt2).trans (hc2 4 _ rfl)
          have hi0 : (0 : Int) ≤ (k : Int) := by omega
          have hi1 : (k : Int) < (n : Int) := by omega
          have hne1 : ¬ g2 = wr.heap.size := by omega
          have hne2 : g2 < wr.heap.size := by omega
          have bk : Below wr.heap.size wr (wr.alloc (.cells #[.string nb, .int .u8 ty, .int .u8 se, .int .u16 de, .int .u64 va] 33)) := (Below.refl _ _).alloc (Nat.le_refl _) _
          have j0 := (bk.cell (p := ⟨g2, k * 5, none⟩) hne2).trans f0
          have j1 := (bk.cell (p := ⟨g2, k * 5 + 1, none⟩) hne2).trans f1
          have j2 := (bk.cell (p := ⟨g2, k * 5 + 2, none⟩) hne2).trans f2
          have j3 := (bk.cell (p := ⟨g2, k * 5 + 3, none⟩) hne2).trans f3
          have j4 := (bk.cell (p := ⟨g2, k * 5 + 4, none⟩) hne2).trans f4
          have hbr' := Lib.hid (((hbr.out.trans (bk.mono hzr))).alloc (by simp; omega) (.cells #[.string nb, .int .u8 ty, .int .u8 se, .int .u16 de, .int .u64 va] 34))
          clear hc1 hc2 bk
          go_wp2
          go_roundw
          case rel => exact ⟨k + 1, by omega, by go_num, hbr'⟩
          case measure => simp [intOf]; omega
        · obtain rfl : k = n := by omega
          have b9 := Lib.hid (b12.out.trans (hbr.out.mono hz2))
          have hz9 := b9.out.size
          clear hG1 hG2
          go_wp2_with fail
          refine (one_sym wide big _ TE TU vE vU (Lib.hid (hErr.out.chg (Chg.of_below (S := fun k => w.heap.size ≤ k) b9.out (fun k _ h => h)) (by omega) (by omega))) (by first | omega | (simp; omega))).mono ?_
          rintro e wz ⟨⟨AZ, cz, rfl⟩, bz⟩
          go_wp2
          go_ret
          exact ⟨rfl, b9.out.trans (bz.mono hz9)⟩
    · rw [hall.out k hk] at hb
      cases hb
  · replace hbad := Lib.hid hbad
    go_wp2_with fail
    refine CALL.out.mono ?_
    rintro e w2 ⟨hp2, b2⟩
    have b12 := Lib.hid (b1.trans (b2.mono hz1))
    have hz2 := b12.out.size
    clear CALL b1 b2
    rcases hp2 with ⟨hall, -⟩ | ⟨-, rfl⟩
    · obtain ⟨k, hk, hb⟩ := hbad.out
      rw [hall k hk] at hb
      cases hb
    · go_wp2
      refine wp_loop_rounds 1 ?_
      rw [rounds_succ]
      go_wp2_with fail
      refine (one_sym wide big _ TE TU vE vU (Lib.hid (hErr.out.chg (Chg.of_below (S := fun k => w.heap.size ≤ k) b12.out (fun k _ h => h)) (by omega) (by omega))) (by first | omega | (simp; omega))).mono ?_
      rintro e wz ⟨⟨AZ, cz, rfl⟩, bz⟩
      go_wp2
      go_ret
      exact ⟨rfl, b12.out.trans (bz.mono hz2)⟩

theorem u16_wf' {n : Int} (h : (Lit.int .u16 n).wf = true) : ∃ k : Nat, n = (k : Int) ∧ k ≤ 65535 := by
  simp [Lit.wf, IntKind.min, IntKind.max, IntKind.signed, IntKind.bits] at h
  exact ⟨n.toNat, by omega, by omega⟩

set_option maxHeartbeats 1000000 in
theorem law_FnMachoSymbols (a0 a1 : Bool) (a2 : Int) (a3 : Option Addr) (len3 cap3 : Nat) (z3 : List Int) (a4 : Option Addr) (len4 cap4 : Nat) (z4 : List Int) (w : World) (w2 : (Lit.int .u16 a2).wf = true) (w3 : IsRow .u8 w a3 len3 cap3 z3) (w4 : IsRow .u8 w a4 len4 cap4 z4) (TE TU : TypeId) (vE vU : Value) (hErr : ErrsAt w TE TU vE vU) (h3 : 3 ≤ w.heap.size) :
    Calls Tryd.prog 3 #[.bool a0, .bool a1, .int .u16 a2, .slice a3 len3 cap3, .slice a4 len4 cap4] w fun e w' => e = .returned (.bool true) ∧ Below w.heap.size w w' := by
  obtain ⟨s, hl, hr, hc, hm⟩ := w3.bytes
  obtain ⟨t, hl2, hr2, hc2, hm2⟩ := w4.bytes
  have hN := Lib.hid hl
  have hN2 := Lib.hid hl2
  have hE := Lib.hid hErr
  obtain ⟨n, rfl, -⟩ := u16_wf' w2
  clear hl w3 hm hErr w2 hl2 w4 hm2
  by_cases h1 : 2147483647 < len3
  · have g : (2147483647 : Int) < (len3 : Int) := by omega
    go_enter Tryd.func3, Tryd.ntmps3
    go_wp2
    go_ret
    exact ⟨rfl, Below.refl _ _⟩
  by_cases h1' : 2147483647 < len4
  · have g0 : ¬ (2147483647 : Int) < (len3 : Int) := by omega
    have g : (2147483647 : Int) < (len4 : Int) := by omega
    go_enter Tryd.func3, Tryd.ntmps3
    go_wp2
    go_ret
    exact ⟨rfl, Below.refl _ _⟩
  by_cases h2 : 300 < n
  · have g1 : ¬ (2147483647 : Int) < (len3 : Int) := by omega
    have g2 : ¬ (2147483647 : Int) < (len4 : Int) := by omega
    have g : (300 : Int) < (n : Int) := by omega
    go_enter Tryd.func3, Tryd.ntmps3
    go_wp2
    go_ret
    exact ⟨rfl, Below.refl _ _⟩
  by_cases h5 : 1048576 < len3
  · have g1 : ¬ (2147483647 : Int) < (len3 : Int) := by omega
    have g2 : ¬ (2147483647 : Int) < (len4 : Int) := by omega
    have g3 : ¬ (300 : Int) < (n : Int) := by omega
    have g : (1048576 : Int) < (len3 : Int) := by omega
    go_enter Tryd.func3, Tryd.ntmps3
    go_wp2
    go_ret
    exact ⟨rfl, Below.refl _ _⟩
  by_cases h6 : 1048576 < len4
  · have g1 : ¬ (2147483647 : Int) < (len3 : Int) := by omega
    have g2 : ¬ (2147483647 : Int) < (len4 : Int) := by omega
    have g3 : ¬ (300 : Int) < (n : Int) := by omega
    have g4 : ¬ (1048576 : Int) < (len3 : Int) := by omega
    have g : (1048576 : Int) < (len4 : Int) := by omega
    go_enter Tryd.func3, Tryd.ntmps3
    go_wp2
    go_ret
    exact ⟨rfl, Below.refl _ _⟩
  exact lawSyms a0 a1 n a3 s len3 cap3 a4 t len4 cap4 w (by omega) (by omega) (by omega) hN hc hr hN2 hc2 hr2 h3 TE TU vE vU hE
end Go.Proofs.YtmgmmdhaklokjaaDoor
