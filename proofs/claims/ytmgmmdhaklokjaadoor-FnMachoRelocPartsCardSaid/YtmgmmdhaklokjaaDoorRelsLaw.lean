/-
  The walk of the laws FnMachoRelocs and FnMachoReloc.
-/
import Derived.Test.YtmgmmdhaklokjaaDoorRels3
import Derived.Test.YtmgmmdhaklokjaaDoorBytes
namespace Go.Proofs.YtmgmmdhaklokjaaDoor
set_option linter.unusedVariables false
set_option linter.unusedSimpArgs false
open Go Go.RowKit
attribute [local go_sem ↓] Go.wp_at_zero Go.wp_at_succ

theorem make8 (w : World) : (Instr.makeSlice 23 (.int .i64 8) (.int .i64 8)).run Tryd.prog w = .ok (.slice (some ⟨w.heap.size, 0, none⟩) 8 8) (w.alloc (.cells #[.int .u8 0, .int .u8 0, .int .u8 0, .int .u8 0, .int .u8 0, .int .u8 0, .int .u8 0, .int .u8 0] 5)) := by kernel_rfl

set_option maxHeartbeats 1000000 in
theorem one_reloc (big : Bool) (w : World) (TE TU : TypeId) (vE vU : Value) (hE : Hid (ErrsAt w TE TU vE vU)) (h3 : 3 ≤ w.heap.size) :
    Calls Tryd.prog 9 #[.bool big, .int .u32 1, .slice (some ⟨w.heap.size, 0, none⟩) 8 8] (w.alloc (.cells #[.int .u8 0, .int .u8 0, .int .u8 0, .int .u8 0, .int .u8 0, .int .u8 0, .int .u8 0, .int .u8 0] 5)) fun e w' => (∃ A c, e = .returned (.tuple #[.slice A 1 c, .bool true])) ∧ Below w.heap.size w w' := by
  have hR : RB (w.alloc (.cells #[.int .u8 0, .int .u8 0, .int .u8 0, .int .u8 0, .int .u8 0, .int .u8 0, .int .u8 0, .int .u8 0] 5)) (some ⟨w.heap.size, 0, none⟩) [0, 0, 0, 0, 0, 0, 0, 0] := RB.of_row (heap_alloc_new w (.cells #[.int .u8 0, .int .u8 0, .int .u8 0, .int .u8 0, .int .u8 0, .int .u8 0, .int .u8 0, .int .u8 0] 5))
  have b0 : Below w.heap.size w (w.alloc (.cells #[.int .u8 0, .int .u8 0, .int .u8 0, .int .u8 0, .int .u8 0, .int .u8 0, .int .u8 0, .int .u8 0] 5)) := (Below.refl w.heap.size w).alloc (Nat.le_refl _) _
  have E1 := Lib.hid (hE.out.chg (Chg.of_below (S := fun k => w.heap.size ≤ k) b0 (fun k _ h => h)) (by omega) (by omega))
  refine (implRelocs_any big 1 (some ⟨w.heap.size, 0, none⟩) [0, 0, 0, 0, 0, 0, 0, 0] 8 8 (w.alloc (.cells #[.int .u8 0, .int .u8 0, .int .u8 0, .int .u8 0, .int .u8 0, .int .u8 0, .int .u8 0, .int .u8 0] 5)) (by omega) (Lib.hid rfl) (by omega) hR (by simp; omega) TE TU vE vU E1).mono ?_
  rintro e w' ⟨hp, hbl⟩
  rcases hp with ⟨-, v, rfl, hown⟩ | ⟨h, -, -⟩
  · obtain ⟨A, c, rfl, -⟩ := rels_at hown.out
    exact ⟨⟨A, c, rfl⟩, b0.trans (hbl.mono (by simp))⟩
  · omega

set_option maxRecDepth 100000 in
set_option maxHeartbeats 4000000 in
theorem lawRelocs (big : Bool) (n : Nat) (A : Option Addr) (l : List UInt8) (len c : Nat) (w : World) (hn : n ≤ 300) (hb : len ≤ 1048576) (hN : Hid (len = l.length)) (hc : len ≤ c) (hA : RB w A l) (h3 : 3 ≤ w.heap.size) (TE TU : TypeId) (vE vU : Value) (hErr : Hid (ErrsAt w TE TU vE vU)) :
    Calls Tryd.prog 6 #[.bool big, .int .u16 n, .slice A len c] w fun e w' => e = .returned (.bool true) ∧ Below w.heap.size w w' := by
  have hmk := make8
  have hg2 : ¬ (300 : Int) < (n : Int) := by omega
  have hg3 : IntKind.u32.wrap (n : Int) = (n : Int) := IntWalk.u32_in _ (by omega)
  have hg4 : IntKind.i64.wrap (n : Int) = (n : Int) := IntWalk.i64_in _ (by omega)
  go_enter Tryd.func6, Tryd.ntmps6
  go_wp2_with fail
  refine (implRelocs_any big n A l len c w (by omega) hN (by omega) hA h3 TE TU vE vU hErr).mono ?_
  rintro e w1 ⟨hp, b1⟩
  have A1 := Lib.hid (hA.later b1)
  have E1 := Lib.hid (hErr.out.chg (Chg.of_below (S := fun k => w.heap.size ≤ k) b1 (fun k _ h => h)) (by omega) (by omega))
  have hz1 := b1.size
  rcases hp with ⟨hok, v, rfl, own1⟩ | ⟨hbad, h0, rfl⟩
  · obtain ⟨G1, d1, rfl, hG1⟩ := rels_at own1.out
    replace hG1 := Lib.hid hG1
    clear own1
    go_wp2_with fail
    refine (specRelocs_any big n A l len c w1 (by omega) hN hc (by omega) A1).mono ?_
    rintro e w2 ⟨hp2, b2⟩
    have b12 := Lib.hid (b1.trans (b2.mono hz1))
    have hz2 := b12.out.size
    have hz12 := b2.size
    replace b2 := Lib.hid b2
    rcases hp2 with ⟨-, v2, rfl, own2⟩ | ⟨h, -⟩
    · obtain ⟨G2, d2, rfl, hG2⟩ := rels_at own2.out
      replace hG2 := Lib.hid hG2
      clear own2 b1 E1
      go_wp2
      go_loopw [51] (fun i wr => ∃ k : Nat, k ≤ n ∧ i = .int .i64 k ∧ Hid (Below w2.heap.size w2 wr)) (fun i _ => n - (intOf i).toNat)
      case atStart => exact ⟨0, Nat.zero_le _, rfl, Lib.hid (Below.refl _ _)⟩
      case round =>
        obtain ⟨k, hk, rfl, hbr⟩ := hrel
        have hzr := hbr.out.size
        by_cases hkn : k < n
        · obtain ⟨g1, rfl, -, hlt1, hc1⟩ := hG1.out k hkn
          obtain ⟨g2, rfl, -, hlt2, hc2⟩ := hG2.out k hkn
          obtain ⟨x0, x1, x2, x3, p, q, r, hx⟩ := relCells_form big (relA big l k) (relB big l k)
          rw [hx] at hc1 hc2
          clear hx
          have e0 : wr.cell? ⟨g1, k * 7, none⟩ = some (.int .u32 x0) := (hbr.out.cell (p := ⟨g1, k * 7 + 0, none⟩) (by simp only; omega)).trans ((b2.out.cell (p := ⟨g1, k * 7 + 0, none⟩) hlt1).trans (hc1 0 _ rfl))
          have f0 : wr.cell? ⟨g2, k * 7, none⟩ = some (.int .u32 x0) := (hbr.out.cell (p := ⟨g2, k * 7 + 0, none⟩) hlt2).trans (hc2 0 _ rfl)
          have e1 : wr.cell? ⟨g1, k * 7 + 1, none⟩ = some (.int .u32 x1) := (hbr.out.cell (p := ⟨g1, k * 7 + 1, none⟩) (by simp only; omega)).trans ((b2.out.cell (p := ⟨g1, k * 7 + 1, none⟩) hlt1).trans (hc1 1 _ rfl))
          have f1 : wr.cell? ⟨g2, k * 7 + 1, none⟩ = some (.int .u32 x1) := (hbr.out.cell (p := ⟨g2, k * 7 + 1, none⟩) hlt2).trans (hc2 1 _ rfl)
          have e2 : wr.cell? ⟨g1, k * 7 + 2, none⟩ = some (.int .u8 x2) := (hbr.out.cell (p := ⟨g1, k * 7 + 2, none⟩) (by simp only; omega)).trans ((b2.out.cell (p := ⟨g1, k * 7 + 2, none⟩) hlt1).trans (hc1 2 _ rfl))
          have f2 : wr.cell? ⟨g2, k * 7 + 2, none⟩ = some (.int .u8 x2) := (hbr.out.cell (p := ⟨g2, k * 7 + 2, none⟩) hlt2).trans (hc2 2 _ rfl)
          have e3 : wr.cell? ⟨g1, k * 7 + 3, none⟩ = some (.int .u8 x3) := (hbr.out.cell (p := ⟨g1, k * 7 + 3, none⟩) (by simp only; omega)).trans ((b2.out.cell (p := ⟨g1, k * 7 + 3, none⟩) hlt1).trans (hc1 3 _ rfl))
          have f3 : wr.cell? ⟨g2, k * 7 + 3, none⟩ = some (.int .u8 x3) := (hbr.out.cell (p := ⟨g2, k * 7 + 3, none⟩) hlt2).trans (hc2 3 _ rfl)
          have e4 : wr.cell? ⟨g1, k * 7 + 4, none⟩ = some (.bool p) := (hbr.out.cell (p := ⟨g1, k * 7 + 4, none⟩) (by simp only; omega)).trans ((b2.out.cell (p := ⟨g1, k * 7 + 4, none⟩) hlt1).trans (hc1 4 _ rfl))
          have f4 : wr.cell? ⟨g2, k * 7 + 4, none⟩ = some (.bool p) := (hbr.out.cell (p := ⟨g2, k * 7 + 4, none⟩) hlt2).trans (hc2 4 _ rfl)
          have e5 : wr.cell? ⟨g1, k * 7 + 5, none⟩ = some (.bool q) := (hbr.out.cell (p := ⟨g1, k * 7 + 5, none⟩) (by simp only; omega)).trans ((b2.out.cell (p := ⟨g1, k * 7 + 5, none⟩) hlt1).trans (hc1 5 _ rfl))
          have f5 : wr.cell? ⟨g2, k * 7 + 5, none⟩ = some (.bool q) := (hbr.out.cell (p := ⟨g2, k * 7 + 5, none⟩) hlt2).trans (hc2 5 _ rfl)
          have e6 : wr.cell? ⟨g1, k * 7 + 6, none⟩ = some (.bool r) := (hbr.out.cell (p := ⟨g1, k * 7 + 6, none⟩) (by simp only; omega)).trans ((b2.out.cell (p := ⟨g1, k * 7 + 6, none⟩) hlt1).trans (hc1 6 _ rfl))
          have f6 : wr.cell? ⟨g2, k * 7 + 6, none⟩ = some (.bool r) := (hbr.out.cell (p := ⟨g2, k * 7 + 6, none⟩) hlt2).trans (hc2 6 _ rfl)
          have hi0 : (0 : Int) ≤ (k : Int) := by omega
          have hi1 : (k : Int) < (n : Int) := by omega
          have hL1 : g1 < wr.heap.size := by omega
          have hL2 : g2 < wr.heap.size := by omega
          clear hc1 hc2
          go_wp2_with fail
          go_region_held3 (fun w' => w'.cell? ⟨g1, k * 7, none⟩ = some (.int .u32 x0) ∧ w'.cell? ⟨g1, k * 7 + 1, none⟩ = some (.int .u32 x1) ∧ w'.cell? ⟨g1, k * 7 + 2, none⟩ = some (.int .u8 x2) ∧ w'.cell? ⟨g1, k * 7 + 3, none⟩ = some (.int .u8 x3) ∧ w'.cell? ⟨g1, k * 7 + 4, none⟩ = some (.bool p) ∧ w'.cell? ⟨g1, k * 7 + 5, none⟩ = some (.bool q) ∧ w'.cell? ⟨g1, k * 7 + 6, none⟩ = some (.bool r) ∧ w'.cell? ⟨g2, k * 7, none⟩ = some (.int .u32 x0) ∧ w'.cell? ⟨g2, k * 7 + 1, none⟩ = some (.int .u32 x1) ∧ w'.cell? ⟨g2, k * 7 + 2, none⟩ = some (.int .u8 x2) ∧ w'.cell? ⟨g2, k * 7 + 3, none⟩ = some (.int .u8 x3) ∧ w'.cell? ⟨g2, k * 7 + 4, none⟩ = some (.bool p) ∧ w'.cell? ⟨g2, k * 7 + 5, none⟩ = some (.bool q) ∧ w'.cell? ⟨g2, k * 7 + 6, none⟩ = some (.bool r))
            (first | exact ⟨e0, e1, e2, e3, e4, e5, e6, f0, f1, f2, f3, f4, f5, f6⟩ | exact K3.out | go_keep)
            (first | (go_at_call 11; refine (relocIs_same x0 x1 x2 x3 p q r _).mono ?_; rintro e w3 ⟨rfl, b3⟩; (try replace b3 := Below.undrew b3); have K3 : Hid (w3.cell? ⟨g1, k * 7, none⟩ = some (.int .u32 x0) ∧ w3.cell? ⟨g1, k * 7 + 1, none⟩ = some (.int .u32 x1) ∧ w3.cell? ⟨g1, k * 7 + 2, none⟩ = some (.int .u8 x2) ∧ w3.cell? ⟨g1, k * 7 + 3, none⟩ = some (.int .u8 x3) ∧ w3.cell? ⟨g1, k * 7 + 4, none⟩ = some (.bool p) ∧ w3.cell? ⟨g1, k * 7 + 5, none⟩ = some (.bool q) ∧ w3.cell? ⟨g1, k * 7 + 6, none⟩ = some (.bool r) ∧ w3.cell? ⟨g2, k * 7, none⟩ = some (.int .u32 x0) ∧ w3.cell? ⟨g2, k * 7 + 1, none⟩ = some (.int .u32 x1) ∧ w3.cell? ⟨g2, k * 7 + 2, none⟩ = some (.int .u8 x2) ∧ w3.cell? ⟨g2, k * 7 + 3, none⟩ = some (.int .u8 x3) ∧ w3.cell? ⟨g2, k * 7 + 4, none⟩ = some (.bool p) ∧ w3.cell? ⟨g2, k * 7 + 5, none⟩ = some (.bool q) ∧ w3.cell? ⟨g2, k * 7 + 6, none⟩ = some (.bool r)) := Lib.hid ⟨(b3.cell (p := ⟨g1, k * 7 + 0, none⟩) hL1).trans e0, (b3.cell (p := ⟨g1, k * 7 + 1, none⟩) hL1).trans e1, (b3.cell (p := ⟨g1, k * 7 + 2, none⟩) hL1).trans e2, (b3.cell (p := ⟨g1, k * 7 + 3, none⟩) hL1).trans e3, (b3.cell (p := ⟨g1, k * 7 + 4, none⟩) hL1).trans e4, (b3.cell (p := ⟨g1, k * 7 + 5, none⟩) hL1).trans e5, (b3.cell (p := ⟨g1, k * 7 + 6, none⟩) hL1).trans e6, (b3.cell (p := ⟨g2, k * 7 + 0, none⟩) hL2).trans f0, (b3.cell (p := ⟨g2, k * 7 + 1, none⟩) hL2).trans f1, (b3.cell (p := ⟨g2, k * 7 + 2, none⟩) hL2).trans f2, (b3.cell (p := ⟨g2, k * 7 + 3, none⟩) hL2).trans f3, (b3.cell (p := ⟨g2, k * 7 + 4, none⟩) hL2).trans f4, (b3.cell (p := ⟨g2, k * 7 + 5, none⟩) hL2).trans f5, (b3.cell (p := ⟨g2, k * 7 + 6, none⟩) hL2).trans f6⟩))
          replace b3 := Lib.hid b3
          have hbr' := Lib.hid (hbr.out.trans (b3.out.mono hzr))
          clear K3
          go_wp2
          go_roundw
          case rel => exact ⟨k + 1, by omega, by go_num, hbr'⟩
          case measure => simp [intOf]; omega
        · obtain rfl : k = n := by omega
          have b9 := Lib.hid (b12.out.trans (hbr.out.mono hz2))
          have hz9 := b9.out.size
          clear hG1 hG2
          go_wp2_with fail
          refine (one_reloc big _ TE TU vE vU (Lib.hid (hErr.out.chg (Chg.of_below (S := fun k => w.heap.size ≤ k) b9.out (fun k _ h => h)) (by omega) (by omega))) (by first | omega | (simp; omega))).mono ?_
          rintro e wz ⟨⟨AZ, cz, rfl⟩, bz⟩
          go_wp2
          go_ret
          exact ⟨rfl, b9.out.trans (bz.mono hz9)⟩
    · omega
  · go_wp2_with fail
    refine (specRelocs_any big n A l len c w1 (by omega) hN hc (by omega) A1).mono ?_
    rintro e w2 ⟨hp2, b2⟩
    have b12 := Lib.hid (b1.trans (b2.mono hz1))
    have hz2 := b12.out.size
    have hz12 := b2.size
    rcases hp2 with ⟨h, -⟩ | ⟨-, rfl⟩
    · omega
    · clear b2 b1 E1
      go_wp2
      refine wp_loop_rounds 1 ?_
      rw [rounds_succ]
      go_wp2_with fail
      refine (one_reloc big _ TE TU vE vU (Lib.hid (hErr.out.chg (Chg.of_below (S := fun k => w.heap.size ≤ k) b12.out (fun k _ h => h)) (by omega) (by omega))) (by first | omega | (simp; omega))).mono ?_
      rintro e wz ⟨⟨AZ, cz, rfl⟩, bz⟩
      go_wp2
      go_ret
      exact ⟨rfl, b12.out.trans (bz.mono hz2)⟩

theorem u16_wf {n : Int} (h : (Lit.int .u16 n).wf = true) : ∃ k : Nat, n = (k : Int) ∧ k ≤ 65535 := by
  simp [Lit.wf, IntKind.min, IntKind.max, IntKind.signed, IntKind.bits] at h
  exact ⟨n.toNat, by omega, by omega⟩
theorem u32_wf {n : Int} (h : (Lit.int .u32 n).wf = true) : ∃ k : Nat, n = (k : Int) ∧ k ≤ 4294967295 := by
  simp [Lit.wf, IntKind.min, IntKind.max, IntKind.signed, IntKind.bits] at h
  exact ⟨n.toNat, by omega, by omega⟩
theorem u8_wf {n : Int} (h : (Lit.int .u8 n).wf = true) : ∃ k : Nat, n = (k : Int) ∧ k ≤ 255 := by
  simp [Lit.wf, IntKind.min, IntKind.max, IntKind.signed, IntKind.bits] at h
  exact ⟨n.toNat, by omega, by omega⟩

set_option maxHeartbeats 1000000 in
theorem law_FnMachoRelocs (a0 : Bool) (a1 : Int) (a2 : Option Addr) (len2 cap2 : Nat) (z2 : List Int) (w : World) (w1 : (Lit.int .u16 a1).wf = true) (w2 : IsRow .u8 w a2 len2 cap2 z2) (TE TU : TypeId) (vE vU : Value) (hErr : ErrsAt w TE TU vE vU) (h3 : 3 ≤ w.heap.size) :
    Calls Tryd.prog 6 #[.bool a0, .int .u16 a1, .slice a2 len2 cap2] w fun e w' => e = .returned (.bool true) ∧ Below w.heap.size w w' := by
  obtain ⟨l, hl, hr, hc, hm⟩ := w2.bytes
  have hN := Lib.hid hl
  have hE := Lib.hid hErr
  obtain ⟨n, rfl, -⟩ := u16_wf w1
  clear hl w2 hm hErr w1
  by_cases h1 : 2147483647 < len2
  · have g : (2147483647 : Int) < (len2 : Int) := by omega
    go_enter Tryd.func6, Tryd.ntmps6
    go_wp2
    go_ret
    exact ⟨rfl, Below.refl _ _⟩
  by_cases h2 : 300 < n
  · have g1 : ¬ (2147483647 : Int) < (len2 : Int) := by omega
    have g : (300 : Int) < (n : Int) := by omega
    go_enter Tryd.func6, Tryd.ntmps6
    go_wp2
    go_ret
    exact ⟨rfl, Below.refl _ _⟩
  by_cases h5 : 1048576 < len2
  · have g1 : ¬ (2147483647 : Int) < (len2 : Int) := by omega
    have g2 : ¬ (300 : Int) < (n : Int) := by omega
    have g : (1048576 : Int) < (len2 : Int) := by omega
    go_enter Tryd.func6, Tryd.ntmps6
    go_wp2
    go_ret
    exact ⟨rfl, Below.refl _ _⟩
  exact lawRelocs a0 n a2 l len2 cap2 w (by omega) (by omega) hN hc hr h3 TE TU vE vU hE
end Go.Proofs.YtmgmmdhaklokjaaDoor
