/-
  Symbols without the auxiliary ones: the contract of removeAuxSymbols where each name is there.
-/
import Derived.Test.YtbpebngjpecncaaGreatDoorPeName
import Derived.Test.YtbpebngjpecncaaGreatDoorGen
import Derived.Test.YtbpebngjpecncaaGreatDoorStep
namespace Go.Proofs.YtbpebngjpecncaaGreatDoor
set_option linter.unusedVariables false
set_option linter.unusedSimpArgs false
set_option maxRecDepth 100000
open Go Go.RowKit
attribute [local go_sem ↓] Go.wp_at_zero Go.wp_at_succ

/-- The places of the records that are no auxiliary ones, among the first j; how many auxiliary ones are still to come. -/
def rem (a : Nat → Nat) : Nat → List Nat × Nat
  | 0 => ([], 0)
  | j + 1 => if (rem a j).2 = 0 then ((rem a j).1 ++ [j], a j) else ((rem a j).1, (rem a j).2 - 1)
theorem rem_zero {a : Nat → Nat} {j : Nat} {acc : List Nat} (h : rem a j = (acc, 0)) : rem a (j + 1) = (acc ++ [j], a j) := by simp [rem, h]
theorem rem_pos {a : Nat → Nat} {j x : Nat} {acc : List Nat} (h : rem a j = (acc, x)) (hx : 0 < x) : rem a (j + 1) = (acc, x - 1) := by
  have h2 : ¬ x = 0 := by omega
  simp [rem, h, h2]
theorem fullName_yes (V : Nat) (y0 y1 y2 y3 y4 y5 y6 y7 : UInt8) (x1 x2 x3 x4 x5 : Int) (TV : TypeId) (A : Option Addr) (t : List UInt8) (n c : Nat) (w : World) (hN : Hid (n = t.length)) (hc : n ≤ c) (hb : n ≤ 2147483647) (hT : RB w A t)
    (hV : Hid (w.heap[V]? = some (.cells #[.int .u8 (y0.toNat : Int), .int .u8 (y1.toNat : Int), .int .u8 (y2.toNat : Int), .int .u8 (y3.toNat : Int), .int .u8 (y4.toNat : Int), .int .u8 (y5.toNat : Int), .int .u8 (y6.toNat : Int), .int .u8 (y7.toNat : Int), .int .u32 x1, .int .i16 x2, .int .u16 x3, .int .u8 x4, .int .u8 x5] TV (0, 0)))) (hok : (symRes [y0, y1, y2, y3, y4, y5, y6, y7] t).2 = true) :
    Calls Tryz.prog 50 #[.pointer (some ⟨V, 0, none⟩), .slice A n c] w fun e w' => e = .returned (.tuple #[.string ⟨(symRes [y0, y1, y2, y3, y4, y5, y6, y7] t).1.toArray⟩, .nilIface]) ∧ Below w.heap.size w w' := by
  have hn := hN.out
  unfold symRes at hok ⊢
  cases ho : isOff [y0, y1, y2, y3, y4, y5, y6, y7] with
  | false => exact fullName_text V y0 y1 y2 y3 y4 y5 y6 y7 x1 x2 x3 x4 x5 TV A t n c w hN hc hb hT hV ho
  | true =>
    rw [ho] at hok
    simp only [if_true] at hok
    have h := fullName_ok V y0 y1 y2 y3 y4 y5 y6 y7 x1 x2 x3 x4 x5 TV A t n c w hN hc hb hT hV ho (by rw [hn]; exact hok)
    refine h.mono ?_
    rintro e w' ⟨rfl, hbl⟩
    exact ⟨by simp [strAt, hok], hbl⟩
theorem Tryz.infoPtr : (Tryz.prog.info? 159).map (fun i => (i.zero, i.size, i.bytes)) = some (some (.pointer none), 1, 8) := by kernel_rfl

set_option maxHeartbeats 1000000 in
theorem remAux_nil (A S : Option Addr) (c n k : Nat) (w : World) : Calls Tryz.prog 38 #[.slice A 0 c, .slice S n k] w fun e w' => e = .returned (.tuple #[.slice none 0 0, .nilIface]) ∧ w = w' := by
  go_enter Tryz.func38, Tryz.ntmps38
  go_wp2
  go_ret2
  exact ⟨rfl, rfl⟩

set_option maxRecDepth 100000 in
set_option maxHeartbeats 2000000 in
theorem remAux_ok (g n cap : Nat) (cs : Nat → CoffL) (au : Nat → Nat) (A : Option Addr) (t : List UInt8) (tn tc : Nat) (w : World) (hn0 : 0 < n) (hn : n ≤ 300) (hl : Hid (∀ k, k < n → (cs k).name.length = 8 ∧ (cs k).aux = (au k : Int) ∧ au k < 256)) (hnames : Hid (∀ k, k < n → (rem au k).2 = 0 → (symRes (cs k).name t).2 = true)) (hT : RB w A t) (htn : Hid (tn = t.length)) (htc : tn ≤ tc) (htb : tn ≤ 2147483647)
    (hglt : g < w.heap.size) (hcl : Hid (∀ (k : Nat), k < n → ∀ (j : Nat) (u : Value), (symCells (cs k))[j]? = some u → w.cell? ⟨g, k * 13 + j, none⟩ = some u)) :
    Calls Tryz.prog 38 #[.slice (some ⟨g, 0, none⟩) n cap, .slice A tn tc] w fun e w' => (∃ V k c, e = .returned (.tuple #[.slice V k c, .nilIface])) ∧ Below w.heap.size w w' := by
  obtain ⟨i0, hi, hz0, hz1, hz2⟩ := info_parts Tryz.infoPtr
  have hmk : ∀ w, (Instr.makeSlice 90 (.int .i64 0) (.int .i64 0)).run Tryz.prog w = .ok (.slice (some ⟨w.heap.size, 0, none⟩) 0 0) (w.alloc (.cells #[] 159)) := fun _ => by kernel_rfl
  have hn1 : ((n : Int) == 0) = false := by rw [beq_eq_false_iff_ne]; omega
  go_enter Tryz.func38, Tryz.ntmps38
  go_wp2
  go_loopw [6, 7, 19] (fun v x i wr => ∃ (j y m : Nat) (vs : List Value), j ≤ n ∧ i = .int .i64 j ∧ x = .int .u8 y ∧ y < 256 ∧ Hid ((rem au j).2 = y) ∧
    Hid (wr.ownsRow w.heap.size 159 1 v m vs) ∧ Hid (m ≤ j) ∧ Hid (Below w.heap.size w wr)) (fun _ _ i _ => n - (intOf i).toNat)
  case atStart => exact ⟨0, 0, 0, [], Nat.zero_le _, rfl, rfl, by omega, Lib.hid rfl, Lib.hid (World.ownsRow_made w #[] 0 (Nat.le_refl _) (by simp [maxLen]) (by simp)), Lib.hid (Nat.le_refl _), Lib.hid ((Below.refl _ _).alloc (Nat.le_refl _) _)⟩
  case round =>
    obtain ⟨j, y, m, vs, hj, rfl, rfl, hy, hrem, hown, hacc, hbl⟩ := hrel
    have hz := hbl.out.size
    by_cases hjn : j < n
    · obtain ⟨hnm, hau, hal⟩ := hl.out j hjn
      obtain ⟨x, hx⟩ : ∃ x, cs j = x := ⟨_, rfl⟩
      have hcx := hcl.out j hjn
      rw [hx] at hnm hau hcx
      obtain ⟨nm, x1, x2, x3, x4, x5⟩ := x
      obtain ⟨y0, y1, y2, y3, y4, y5, y6, y7, rfl⟩ := name8 hnm
      have hau' : x5 = (au j : Int) := hau
      subst hau'
      replace hx := Lib.hid hx
      have hc := fun (i : Nat) (u : Value) (h : (symCells ⟨[y0, y1, y2, y3, y4, y5, y6, y7], x1, x2, x3, x4, (au j : Int)⟩)[i]? = some u) => (hbl.out.cell (p := ⟨g, j * 13 + i, none⟩) hglt).trans (hcx i u h)
      have d0 : wr.cell? ⟨g, j * 13, none⟩ = some (.int .u8 (y0.toNat : Int)) := hc 0 _ rfl
      have d1 : wr.cell? ⟨g, j * 13 + 1, none⟩ = some (.int .u8 (y1.toNat : Int)) := hc 1 _ rfl
      have d2 : wr.cell? ⟨g, j * 13 + 2, none⟩ = some (.int .u8 (y2.toNat : Int)) := hc 2 _ rfl
      have d3 : wr.cell? ⟨g, j * 13 + 3, none⟩ = some (.int .u8 (y3.toNat : Int)) := hc 3 _ rfl
      have d4 : wr.cell? ⟨g, j * 13 + 4, none⟩ = some (.int .u8 (y4.toNat : Int)) := hc 4 _ rfl
      have d5 : wr.cell? ⟨g, j * 13 + 5, none⟩ = some (.int .u8 (y5.toNat : Int)) := hc 5 _ rfl
      have d6 : wr.cell? ⟨g, j * 13 + 6, none⟩ = some (.int .u8 (y6.toNat : Int)) := hc 6 _ rfl
      have d7 : wr.cell? ⟨g, j * 13 + 7, none⟩ = some (.int .u8 (y7.toNat : Int)) := hc 7 _ rfl
      have d8 : wr.cell? ⟨g, j * 13 + 8, none⟩ = some (.int .u32 x1) := hc 8 _ rfl
      have d9 : wr.cell? ⟨g, j * 13 + 9, none⟩ = some (.int .i16 x2) := hc 9 _ rfl
      have d10 : wr.cell? ⟨g, j * 13 + 10, none⟩ = some (.int .u16 x3) := hc 10 _ rfl
      have d11 : wr.cell? ⟨g, j * 13 + 11, none⟩ = some (.int .u8 x4) := hc 11 _ rfl
      have d12 : wr.cell? ⟨g, j * 13 + 12, none⟩ = some (.int .u8 (au j : Int)) := hc 12 _ rfl
      have own1 := Lib.hid (hown.out.alloc (.cells #[.int .u8 (y0.toNat : Int), .int .u8 (y1.toNat : Int), .int .u8 (y2.toNat : Int), .int .u8 (y3.toNat : Int), .int .u8 (y4.toNat : Int), .int .u8 (y5.toNat : Int), .int .u8 (y6.toNat : Int), .int .u8 (y7.toNat : Int), .int .u32 x1, .int .i16 x2, .int .u16 x3, .int .u8 x4, .int .u8 (au j : Int)] 99))
      have bk := Lib.hid ((Below.refl wr.heap.size wr).alloc (Nat.le_refl _) (.cells #[.int .u8 (y0.toNat : Int), .int .u8 (y1.toNat : Int), .int .u8 (y2.toNat : Int), .int .u8 (y3.toNat : Int), .int .u8 (y4.toNat : Int), .int .u8 (y5.toNat : Int), .int .u8 (y6.toNat : Int), .int .u8 (y7.toNat : Int), .int .u32 x1, .int .i16 x2, .int .u16 x3, .int .u8 x4, .int .u8 (au j : Int)] 99))
      have gk := Lib.hid (heap_alloc_new wr (.cells #[.int .u8 (y0.toNat : Int), .int .u8 (y1.toNat : Int), .int .u8 (y2.toNat : Int), .int .u8 (y3.toNat : Int), .int .u8 (y4.toNat : Int), .int .u8 (y5.toNat : Int), .int .u8 (y6.toNat : Int), .int .u8 (y7.toNat : Int), .int .u32 x1, .int .i16 x2, .int .u16 x3, .int .u8 x4, .int .u8 (au j : Int)] 99))
      have hji0 : (0 : Int) ≤ (j : Int) := by omega
      have hji1 : (j : Int) < (n : Int) := by omega
      have htr := Lib.hid (((hT.later hbl.out).later bk.out))
      clear hc hcx hnm hau
      by_cases hy0 : y = 0
      · subst hy0
        have hnx : (cs j).name = [y0, y1, y2, y3, y4, y5, y6, y7] := by rw [hx.out]
        have hgood := hnames.out j hjn hrem.out
        rw [hnx] at hgood
        have hrem1 : Hid ((rem au (j + 1)).2 = au j) := Lib.hid (by rw [rem, if_pos hrem.out])
        have CALL := Lib.hid (fullName_yes wr.heap.size y0 y1 y2 y3 y4 y5 y6 y7 x1 x2 x3 x4 (au j : Int) 99 A t tn tc _ htn htc htb htr.out gk hgood)
        rw [← hnx] at hgood
        replace hgood := Lib.hid hgood
        replace hnx := Lib.hid hnx
        generalize (symRes [y0, y1, y2, y3, y4, y5, y6, y7] t).1 = nmx at *
        generalize au j = auj at *
        go_wp2_with fail
        refine CALL.out.mono ?_
        rintro e w2 ⟨rfl, b2⟩
        have g2 := row_later b2 gk
        have r1 := World.cell?_of_row g2.out 8 (.int .u32 x1) rfl
        have r2 := World.cell?_of_row g2.out 9 (.int .i16 x2) rfl
        have r3 := World.cell?_of_row g2.out 10 (.int .u16 x3) rfl
        have r4 := World.cell?_of_row g2.out 11 (.int .u8 x4) rfl
        have r5 := World.cell?_of_row g2.out 12 (.int .u8 (auj : Int)) rfl
        have own2 := Lib.hid (owns_later own1.out b2)
        have b3 := Lib.hid (bk.out.trans (b2.mono bk.out.size))
        clear gk own1 g2 htr
        have own3 := Lib.hid ((own2.out.alloc (.cells #[.string ⟨nmx.toArray⟩, .int .u32 x1, .int .i16 x2, .int .u16 x3, .int .u8 x4] 161)).alloc (.cells #[.pointer (some ⟨w2.heap.size, 0, none⟩)] 159))
        have bx := Lib.hid (((Below.refl w2.heap.size w2).alloc (Nat.le_refl _) (.cells #[.string ⟨nmx.toArray⟩, .int .u32 x1, .int .i16 x2, .int .u16 x3, .int .u8 x4] 161)).alloc (by simp) (.cells #[.pointer (some ⟨w2.heap.size, 0, none⟩)] 159))
        have gx := Lib.hid (heap_alloc2_old w2 (.cells #[.string ⟨nmx.toArray⟩, .int .u32 x1, .int .i16 x2, .int .u16 x3, .int .u8 x4] 161) (.cells #[.pointer (some ⟨w2.heap.size, 0, none⟩)] 159))
        have gy := heap_alloc2_new w2 (.cells #[.string ⟨nmx.toArray⟩, .int .u32 x1, .int .i16 x2, .int .u16 x3, .int .u8 x4] 161) (.cells #[.pointer (some ⟨w2.heap.size, 0, none⟩)] 159)
        have hcn := World.cell?_of_row gy 0 _ rfl
        have hszx : w2.heap.size + 2 = ((w2.alloc (.cells #[.string ⟨nmx.toArray⟩, .int .u32 x1, .int .i16 x2, .int .u16 x3, .int .u8 x4] 161)).alloc (.cells #[.pointer (some ⟨w2.heap.size, 0, none⟩)] 159)).heap.size := by simp
        have hzw := b3.out.size
        have hacc' := hacc.out
        replace hszx := Lib.hid hszx
        replace hcn := Lib.hid hcn
        clear gy b2 CALL
        go_wp2_with (at_builtin; refine Stop.mk ?_)
        refine Stop.go ?_
        refine wpList_append_any rfl (.tmp 48) (.tmp 50) 90 rfl w.heap.size 159 i0 (.pointer none) 1 8 Tryz.underlying90 hi hz0 hz1 hz2 rfl (by omega) _ m vs rfl own3.out (some ⟨w2.heap.size + 1, 0, none⟩) 1 1 [.pointer (some ⟨w2.heap.size, 0, none⟩)] rfl (RC.one hcn.out) (List.all_eq_true.1 rfl) (by simp only [maxLen]; omega) (by omega) (by have := hszx.out; omega) ?_
        intro v4 w4 own4 g4 at4
        have hk4 := Keeps.of_grown own3.out g4
        have b4 := Lib.hid ((hbl.out.trans ((b3.out.trans (bx.out.mono hzw)).mono hz)).grown g4 (by have := hszx.out; omega) (fun q hq => (own2.out.lt q hq).1))
        have own4' := Lib.hid own4
        have hl4 : Hid (m + 1 ≤ j + 1) := Lib.hid (by omega)
        clear own4 g4 at4 hk4 own3 own2 gx hcn b3 bx hgood hacc' r1 r2 r3 r4 r5
        go_wp2
        go_roundw
        case rel => exact ⟨j + 1, auj, m + 1, _, by omega, by go_num, rfl, hal, hrem1, own4', hl4, b4⟩
        case measure => simp [intOf]; omega
      · have hrem1 : Hid ((rem au (j + 1)).2 = y - 1) := Lib.hid (by rw [rem, if_neg (by rw [hrem.out]; exact hy0)]; simp only; rw [hrem.out])
        have hy1 : (0 : Int) < (y : Int) := by omega
        have hwr : IntKind.u8.wrap ((y : Int) - 1) = ((y - 1 : Nat) : Int) := by rw [IntKind.wrap_u8]; omega
        have b4 := Lib.hid (hbl.out.trans (bk.out.mono hz))
        have hl4 : Hid (m ≤ j + 1) := Lib.hid (by have := hacc.out; omega)
        clear hrem gk htr bk hbl hown
        generalize au j = auj at *
        go_wp2
        go_roundw
        case rel => exact ⟨j + 1, y - 1, m, _, by omega, by go_num, rfl, by omega, hrem1, own1, hl4, b4⟩
        case measure => simp [intOf]; omega
    · obtain rfl : j = n := by omega
      obtain ⟨vA, vc, rfl, -⟩ := RT.of_owns hown.out
      go_wp2
      go_ret2
      exact ⟨⟨_, _, _, rfl⟩, hbl.out⟩
end Go.Proofs.YtbpebngjpecncaaGreatDoor
