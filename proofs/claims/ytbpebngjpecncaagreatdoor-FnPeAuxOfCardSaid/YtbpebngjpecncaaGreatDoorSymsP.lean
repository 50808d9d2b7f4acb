/-
  Symbols one behind the other: what they are; the contract of readCOFFSymbols over a section.
-/
import Derived.Test.YtbpebngjpecncaaGreatDoorCOFFSymbolP
import Derived.Test.YtbpebngjpecncaaGreatDoorAuxP
import Derived.Test.YtbpebngjpecncaaGreatDoorCoffRec
import Derived.Test.YtbpebngjpecncaaGreatDoorSeekP
namespace Go.Proofs.YtbpebngjpecncaaGreatDoor
set_option linter.unusedVariables false
set_option linter.unusedSimpArgs false
set_option maxRecDepth 100000
open Go Go.RowKit
attribute [local go_sem ↓] Go.wp_at_zero Go.wp_at_succ

theorem fCOFF_eq (s : List UInt8) : fCOFFSymbol false s = symCells (coffL s) := rfl
/-- An auxiliary record out of its bytes. -/
def auxL (s : List UInt8) : CoffL := ⟨s.take 8, (num false ((s.drop 8).take 4) : Nat), IntKind.i16.wrap (num false ((s.drop 12).take 2) : Nat), IntKind.u16.wrap (num false ((s.drop 14).take 1) : Nat), 0, 0⟩
theorem fAux_eq (s : List UInt8) : fAux s = symCells (auxL s) := rfl
/-- The bytes of record k; how many auxiliary ones a record tells; the records of the first k, and how many auxiliary ones are still to come. -/
def blk (s : List UInt8) (k : Nat) : List UInt8 := (s.drop (18 * k)).take 18
def auxN (b : List UInt8) : Nat := num false ((b.drop 17).take 1)
def symSt (s : List UInt8) : Nat → List CoffL × Nat
  | 0 => ([], 0)
  | k + 1 => if (symSt s k).2 = 0 then ((symSt s k).1 ++ [coffL (blk s k)], auxN (blk s k)) else ((symSt s k).1 ++ [auxL (blk s k)], (symSt s k).2 - 1)
def symRow (s : List UInt8) (k : Nat) : List Value := ((symSt s k).1.map symCells).flatten
theorem symSt_zero {s : List UInt8} {k : Nat} (h : (symSt s k).2 = 0) : symSt s (k + 1) = ((symSt s k).1 ++ [coffL (blk s k)], auxN (blk s k)) := by rw [symSt, if_pos h]
theorem symSt_pos {s : List UInt8} {k : Nat} (h : (symSt s k).2 ≠ 0) : symSt s (k + 1) = ((symSt s k).1 ++ [auxL (blk s k)], (symSt s k).2 - 1) := by rw [symSt, if_neg h]
theorem symRow_zero {s : List UInt8} {k : Nat} (h : (symSt s k).2 = 0) : symRow s (k + 1) = symRow s k ++ symCells (coffL (blk s k)) := by simp [symRow, symSt_zero h]
theorem symRow_pos {s : List UInt8} {k : Nat} (h : (symSt s k).2 ≠ 0) : symRow s (k + 1) = symRow s k ++ symCells (auxL (blk s k)) := by simp [symRow, symSt_pos h]
theorem symSt_len (s : List UInt8) : ∀ k, (symSt s k).1.length = k
  | 0 => rfl
  | k + 1 => by
    by_cases h : (symSt s k).2 = 0
    · rw [symSt_zero h]; simp [symSt_len s k]
    · rw [symSt_pos h]; simp [symSt_len s k]
theorem auxN_lt (b : List UInt8) : auxN b < 256 := by
  unfold auxN
  have h1 := num_lt false ((b.drop 17).take 1)
  have h2 : 256 ^ ((b.drop 17).take 1).length ≤ 256 ^ 1 := Nat.pow_le_pow_right (by decide) (by simp; omega)
  omega
theorem symSt_lt (s : List UInt8) : ∀ k, (symSt s k).2 < 256
  | 0 => by show 0 < 256; decide
  | k + 1 => by
    have := symSt_lt s k
    by_cases h : (symSt s k).2 = 0
    · rw [symSt_zero h]; exact auxN_lt _
    · rw [symSt_pos h]; simp only; omega

set_option maxHeartbeats 400000 in
theorem sliceCap_any (n : Nat) (hn : n ≤ 500000) (w : World) : Calls Tryz.prog 47 #[.int .u64 20, .int .u64 n] w fun e w' => e = .returned (.int .i64 n) ∧ w = w' := by
  have q1 : IntKind.i64.wrap (n : Int) = (n : Int) := IntWalk.i64_in _ (by omega)
  have q2 : IntKind.u64.wrap (n : Int) = (n : Int) := IntWalk.u64_in _ (by omega)
  have q3 : ¬ ((n : Int) < 0) := by omega
  have q4 : IntKind.u64.wrap ((n : Int) * 20) = (n : Int) * 20 := IntWalk.u64_in _ (by omega)
  have q5 : ¬ ((922337203685477580 : Int) < (n : Int)) := by omega
  have q6 : ¬ ((10485760 : Int) < (n : Int) * 20) := by omega
  go_enter Tryz.func47, Tryz.ntmps47
  go_wp2
  go_ret
  exact ⟨rfl, rfl⟩

theorem Tryz.infoSym : (Tryz.prog.info? 99).map (fun i => (i.zero, i.size, i.bytes)) = some (some (.agg #[.int .u8 0, .int .u8 0, .int .u8 0, .int .u8 0, .int .u8 0, .int .u8 0, .int .u8 0, .int .u8 0, .int .u32 0, .int .i16 0, .int .u16 0, .int .u8 0, .int .u8 0]), 13, 20) := by kernel_rfl
theorem makeSyms (n : Nat) (hn : n ≤ 500000) : ∃ cur : Array Value, cur.size = n * 13 ∧ ∀ w, (Instr.makeSlice 91 (.int .i64 0) (.int .i64 (n : Int))).run Tryz.prog w = .ok (.slice (some ⟨w.heap.size, 0, none⟩) 0 n) (w.alloc (.cells cur 99)) := by
  obtain ⟨i0, hi, hz0, hz1, hz2⟩ := info_parts Tryz.infoSym
  refine ⟨madeCells (Value.cells (.agg #[.int .u8 0, .int .u8 0, .int .u8 0, .int .u8 0, .int .u8 0, .int .u8 0, .int .u8 0, .int .u8 0, .int .u32 0, .int .i16 0, .int .u16 0, .int .u8 0, .int .u8 0])) (n * i0.size), by rw [size_madeCells, hz1], fun w => ?_⟩
  have hr := run_make (P := Tryz.prog) w 91 99 i0 _ Tryz.underlying91 hi hz0 .i64 .i64 0 n (by omega) (by omega) (by rw [hz2]; omega) (by omega)
  simpa using hr

set_option maxRecDepth 100000 in
set_option maxHeartbeats 4000000 in
theorem readSymbols_any (H ho place n : Nat) (M : Nat) (D : Nat → Prop) (l : List UInt8) (pos : Nat) (w : World) (hR : Hid (Rdr w (secV M) M D l pos)) (hpl0 : 0 < place) (hpl : place ≤ 4294967295) (hn : 0 < n) (hn' : n ≤ 65535) (hHM : H ≠ M)
    (h3c : w.cell? ⟨H, ho + 3, none⟩ = some (.int .u32 place)) (h4c : w.cell? ⟨H, ho + 4, none⟩ = some (.int .u32 n)) (hful : Hid (place + 18 * n ≤ l.length)) (hfin : Hid ((symSt (l.drop place) n).2 = 0)) :
    Calls Tryz.prog 37 #[.pointer (some ⟨H, ho, none⟩), (secV M)] w fun e w' => (∃ v, e = .returned (.tuple #[v, .nilIface]) ∧ Hid (w'.ownsRow w.heap.size 99 13 v n (symRow (l.drop place) n))) ∧ Hid (Rdr w' (secV M) M D l (place + 18 * n)) ∧ Chg (fun k => k = M) w w' := by
  obtain ⟨i0, hi, hz0, hz1, hz2⟩ := info_parts Tryz.infoSym
  have hMlt := hR.out.lt
  have hD0 := Lib.hid (fun x hx => (hR.out.d x hx).1)
  have hHlt : H < w.heap.size := World.block_lt_of_cell? w _ h3c
  have hLL := hR.out.len
  have hn1 : ∀ w, (nilAhead 338 103 (.pointer (some ⟨M, 0, none⟩)) "Seek").run Tryz.prog w = .ok (some false) w := fun w => nilSeek _ ⟨M, 0, none⟩ w
  have hm1 : ∀ w, (method 338 103 (.pointer (some ⟨M, 0, none⟩)) "Seek").run Tryz.prog w = .ok (34, .pointer (some ⟨M, 0, none⟩)) w := fun w => methodSeek _ ⟨M, 0, none⟩ w
  have hwp : IntKind.i64.wrap (place : Int) = (place : Int) := IntWalk.i64_in _ (by omega)
  have hwn : IntKind.u64.wrap (n : Int) = (n : Int) := IntWalk.u64_in _ (by omega)
  have hp0 : ((place : Int) == 0) = false := by rw [beq_eq_false_iff_ne]; omega
  have hn0 : ¬ ((n : Int) ≤ 0) := by omega
  have hnlt : ¬ ((n : Int) < 0) := by omega
  obtain ⟨cur, hcur, hmk⟩ := makeSyms n (by omega)
  go_enter Tryz.func37, Tryz.ntmps37
  go_wp2_with fail
  go_region_held3 (fun w' => w'.cell? ⟨H, ho + 3, none⟩ = some (.int .u32 place)) (first | go_keep | exact (C1.cell (p := ⟨H, ho + 3, none⟩) hHlt hHM).trans h3c) (first | (go_at_call 34; refine (secSeek M pos place D l _ (by omega) (Lib.hid (by first | exact hR.out.drew | exact hR.out))).mono ?_; rintro e w1 ⟨rfl, R1, C1, hs1⟩; (try replace C1 := Chg.undrew C1); replace hs1 := Lib.hid hs1))
  have h41 : w1.cell? ⟨H, ho + 4, none⟩ = some (.int .u32 n) := (C1.cell (p := ⟨H, ho + 4, none⟩) hHlt hHM).trans h4c
  have hz1' := C1.size
  go_wp2_with fail
  refine (sliceCap_any n (by omega) w1).mono ?_
  rintro e w' ⟨rfl, rfl⟩
  have hown0 := Lib.hid (World.ownsRow_made (base := w.heap.size) (e := 99) (size := 13) w1 cur n hz1' (by simp only [maxLen]; omega) hcur)
  have R2 := Lib.hid (R1.out.later ((Below.refl _ w1).alloc (Nat.le_refl _) (.cells cur 99)))
  have C2 := Lib.hid (C1.alloc (.cells cur 99))
  replace hcur := Lib.hid hcur
  clear C1 h41
  go_wp2
  go_loopw [9, 10, 11] (fun sv na i wr => ∃ k : Nat, k ≤ n ∧ (place + 18 * k ≤ l.length ∨ k = 0) ∧ i = .int .u32 k ∧ na = .int .i64 ((symSt (l.drop place) k).2 : Nat) ∧ Hid (wr.ownsRow w.heap.size 99 13 sv k (symRow (l.drop place) k)) ∧ Hid (Rdr wr (secV M) M D l (place + 18 * k)) ∧ Hid (Chg (fun x => x = M) w wr)) (fun _ _ i _ => n - (intOf i).toNat)
  case atStart => exact ⟨0, Nat.zero_le _, .inr rfl, rfl, rfl, hown0, R2, C2⟩
  case round =>
    obtain ⟨k, hk, hkl, rfl, hnn, hown, hRk, hC⟩ := hrel
    have h4r : wr.cell? ⟨H, ho + 4, none⟩ = some (.int .u32 n) := (hC.out.cell (p := ⟨H, ho + 4, none⟩) hHlt hHM).trans h4c
    have hzr := hC.out.size
    by_cases hkn : k < n
    · have hkn' : (k : Int) < (n : Int) := by omega
      have qk : IntKind.u32.wrap ((k : Int) + 1) = (k : Int) + 1 := by rw [IntKind.wrap_u32]; omega
      have Ra := Lib.hid (hRk.out.later ((Below.refl _ wr).alloc (Nat.le_refl _) (.cells #[.int .u8 0, .int .u8 0, .int .u8 0, .int .u8 0, .int .u8 0, .int .u8 0, .int .u8 0, .int .u8 0, .int .u32 0, .int .i16 0, .int .u16 0, .int .u8 0, .int .u8 0] 99)))
      have Va := Lib.hid (heap_alloc_new wr (.cells #[.int .u8 0, .int .u8 0, .int .u8 0, .int .u8 0, .int .u8 0, .int .u8 0, .int .u8 0, .int .u8 0, .int .u32 0, .int .i16 0, .int .u16 0, .int .u8 0, .int .u8 0] 99))
      have hVD : Hid (¬ D wr.heap.size) := Lib.hid (fun e => absurd (hRk.out.d _ e).1 (Nat.lt_irrefl _))
      have hMr := hRk.out.lt
      obtain ⟨b, hB⟩ : ∃ b, (l.drop (place + 18 * k)).take 18 = b := ⟨_, rfl⟩
      have hbk := Lib.hid (show blk (l.drop place) k = b by rw [← hB, blk, List.drop_drop])
      replace hB := Lib.hid hB
      by_cases hb : place + 18 * k + 18 ≤ l.length
      · have hps := Lib.hid hb
        have hb18 := Lib.hid (show b.length = 18 by rw [← hB.out]; simp; omega)
        by_cases hna : (symSt (l.drop place) k).2 = 0
        ·
          have hst := symSt_zero hna
          have hrs := symRow_zero hna
          rw [hbk.out] at hst hrs
          have hqa : IntKind.i64.wrap ((num false ((b.drop 17).take 1) : Nat) : Int) = ((num false ((b.drop 17).take 1) : Nat) : Int) := by
            have := auxN_lt b
            unfold auxN at this
            exact IntWalk.i64_in _ (by omega)
          rw [hna] at hnn
          obtain rfl : u10 = .int .i64 0 := hnn
          go_wp2_with fail
          refine (readCOFFSymbol_all wr.heap.size M _ D l (place + 18 * k) false 99 _ Ra hps (by omega) hVD Va).mono ?_
          rintro e w4 ⟨rfl, R4, V4, C4⟩
          rw [hB.out] at V4
          obtain ⟨y0, y1, y2, y3, y4, y5, y6, y7, hy, hrw⟩ := fCOFFSymbol_row false b hb18.out
          have hcells := Lib.hid (show symCells (coffL b) = [.int .u8 (y0.toNat : Int), .int .u8 (y1.toNat : Int), .int .u8 (y2.toNat : Int), .int .u8 (y3.toNat : Int), .int .u8 (y4.toNat : Int), .int .u8 (y5.toNat : Int), .int .u8 (y6.toNat : Int), .int .u8 (y7.toNat : Int), .int .u32 ((num false ((b.drop 8).take 4) : Nat) : Int), .int .i16 (IntKind.i16.wrap ((num false ((b.drop 12).take 2) : Nat) : Int)), .int .u16 ((num false ((b.drop 14).take 2) : Nat) : Int), .int .u8 ((num false ((b.drop 16).take 1) : Nat) : Int), .int .u8 ((num false ((b.drop 17).take 1) : Nat) : Int)] from (fCOFF_eq b).symm.trans hrw)
          rw [fCOFF_eq, hcells.out] at V4
          clear hy hrw
          replace V4 := V4.out
          have d0 : w4.cell? ⟨wr.heap.size, 0, none⟩ = some (.int .u8 (y0.toNat : Int)) := World.cell?_of_row V4 0 _ rfl
          have d1 : w4.cell? ⟨wr.heap.size, 1, none⟩ = some (.int .u8 (y1.toNat : Int)) := World.cell?_of_row V4 1 _ rfl
          have d2 : w4.cell? ⟨wr.heap.size, 2, none⟩ = some (.int .u8 (y2.toNat : Int)) := World.cell?_of_row V4 2 _ rfl
          have d3 : w4.cell? ⟨wr.heap.size, 3, none⟩ = some (.int .u8 (y3.toNat : Int)) := World.cell?_of_row V4 3 _ rfl
          have d4 : w4.cell? ⟨wr.heap.size, 4, none⟩ = some (.int .u8 (y4.toNat : Int)) := World.cell?_of_row V4 4 _ rfl
          have d5 : w4.cell? ⟨wr.heap.size, 5, none⟩ = some (.int .u8 (y5.toNat : Int)) := World.cell?_of_row V4 5 _ rfl
          have d6 : w4.cell? ⟨wr.heap.size, 6, none⟩ = some (.int .u8 (y6.toNat : Int)) := World.cell?_of_row V4 6 _ rfl
          have d7 : w4.cell? ⟨wr.heap.size, 7, none⟩ = some (.int .u8 (y7.toNat : Int)) := World.cell?_of_row V4 7 _ rfl
          have d8 : w4.cell? ⟨wr.heap.size, 8, none⟩ = some (.int .u32 ((num false ((b.drop 8).take 4) : Nat) : Int)) := World.cell?_of_row V4 8 _ rfl
          have d9 : w4.cell? ⟨wr.heap.size, 9, none⟩ = some (.int .i16 (IntKind.i16.wrap ((num false ((b.drop 12).take 2) : Nat) : Int))) := World.cell?_of_row V4 9 _ rfl
          have d10 : w4.cell? ⟨wr.heap.size, 10, none⟩ = some (.int .u16 ((num false ((b.drop 14).take 2) : Nat) : Int)) := World.cell?_of_row V4 10 _ rfl
          have d11 : w4.cell? ⟨wr.heap.size, 11, none⟩ = some (.int .u8 ((num false ((b.drop 16).take 1) : Nat) : Int)) := World.cell?_of_row V4 11 _ rfl
          have d12 : w4.cell? ⟨wr.heap.size, 12, none⟩ = some (.int .u8 ((num false ((b.drop 17).take 1) : Nat) : Int)) := World.cell?_of_row V4 12 _ rfl
          have C5 : Chg (fun x => x = M) wr w4 := ((Chg.refl (fun x => x = M) wr).alloc (.cells #[.int .u8 0, .int .u8 0, .int .u8 0, .int .u8 0, .int .u8 0, .int .u8 0, .int .u8 0, .int .u8 0, .int .u32 0, .int .i16 0, .int .u16 0, .int .u8 0, .int .u8 0] 99)).trans (C4.mono (fun x _ hx => by rcases hx with hx | hx <;> omega))
          have hz5 := C5.size
          have own4 := Lib.hid (hown.out.kept (w' := w4) (row := some M) ⟨C5.os, C5.tape, C5.output, C5.size, fun x hx hne => C5.block x hx (fun e => hne (by rw [e]))⟩ (by
            cases hq : u9.ownBlock with
            | none => exact .inl rfl
            | some q => exact .inr (fun e => by have h1 := (hown.out.lt q hq).1; simp only [Option.some.injEq] at e; omega)))
          have own5 := Lib.hid (own4.out.alloc (.cells ([.int .u8 (y0.toNat : Int), .int .u8 (y1.toNat : Int), .int .u8 (y2.toNat : Int), .int .u8 (y3.toNat : Int), .int .u8 (y4.toNat : Int), .int .u8 (y5.toNat : Int), .int .u8 (y6.toNat : Int), .int .u8 (y7.toNat : Int), .int .u32 ((num false ((b.drop 8).take 4) : Nat) : Int), .int .i16 (IntKind.i16.wrap ((num false ((b.drop 12).take 2) : Nat) : Int)), .int .u16 ((num false ((b.drop 14).take 2) : Nat) : Int), .int .u8 ((num false ((b.drop 16).take 1) : Nat) : Int), .int .u8 ((num false ((b.drop 17).take 1) : Nat) : Int)]).toArray 99))
          have hrc := rc_newN (w := w4) (vs := [.int .u8 (y0.toNat : Int), .int .u8 (y1.toNat : Int), .int .u8 (y2.toNat : Int), .int .u8 (y3.toNat : Int), .int .u8 (y4.toNat : Int), .int .u8 (y5.toNat : Int), .int .u8 (y6.toNat : Int), .int .u8 (y7.toNat : Int), .int .u32 ((num false ((b.drop 8).take 4) : Nat) : Int), .int .i16 (IntKind.i16.wrap ((num false ((b.drop 12).take 2) : Nat) : Int)), .int .u16 ((num false ((b.drop 14).take 2) : Nat) : Int), .int .u8 ((num false ((b.drop 16).take 1) : Nat) : Int), .int .u8 ((num false ((b.drop 17).take 1) : Nat) : Int)]) (T := 99) (k := w4.heap.size) (size := 13) (n := 1) rfl rfl
          replace hC := Lib.hid (hC.out.trans (C5.mono (fun x _ hx => .inl hx)))
          clear C4 C5 V4 Va Ra hown
          go_wp2_with (at_builtin; refine Stop.mk ?_)
          refine Stop.go ?_
          refine wpList_append_any rfl (.tmp 75) (.tmp 77) 91 rfl w.heap.size 99 i0 _ 13 20 Tryz.underlying91 hi hz0 hz1 hz2 rfl (by omega) u9 k _ rfl own5.out (some ⟨w4.heap.size, 0, none⟩) 1 1 [.int .u8 (y0.toNat : Int), .int .u8 (y1.toNat : Int), .int .u8 (y2.toNat : Int), .int .u8 (y3.toNat : Int), .int .u8 (y4.toNat : Int), .int .u8 (y5.toNat : Int), .int .u8 (y6.toNat : Int), .int .u8 (y7.toNat : Int), .int .u32 ((num false ((b.drop 8).take 4) : Nat) : Int), .int .i16 (IntKind.i16.wrap ((num false ((b.drop 12).take 2) : Nat) : Int)), .int .u16 ((num false ((b.drop 14).take 2) : Nat) : Int), .int .u8 ((num false ((b.drop 16).take 1) : Nat) : Int), .int .u8 ((num false ((b.drop 17).take 1) : Nat) : Int)] rfl hrc (List.all_eq_true.1 rfl) (by simp only [maxLen]; omega) (by omega) (by simp; omega) ?_
          intro v1 w5 hown1 hg1 hat1
          have bb : Below w.heap.size (w4.alloc (.cells ([.int .u8 (y0.toNat : Int), .int .u8 (y1.toNat : Int), .int .u8 (y2.toNat : Int), .int .u8 (y3.toNat : Int), .int .u8 (y4.toNat : Int), .int .u8 (y5.toNat : Int), .int .u8 (y6.toNat : Int), .int .u8 (y7.toNat : Int), .int .u32 ((num false ((b.drop 8).take 4) : Nat) : Int), .int .i16 (IntKind.i16.wrap ((num false ((b.drop 12).take 2) : Nat) : Int)), .int .u16 ((num false ((b.drop 14).take 2) : Nat) : Int), .int .u8 ((num false ((b.drop 16).take 1) : Nat) : Int), .int .u8 ((num false ((b.drop 17).take 1) : Nat) : Int)]).toArray 99)) w5 := (Below.refl _ _).grown hg1 (by simp; omega) (fun q hq => (own5.out.lt q hq).1)
          have R5 := Lib.hid ((R4.out.later ((Below.refl _ w4).alloc (Nat.le_refl _) (.cells ([.int .u8 (y0.toNat : Int), .int .u8 (y1.toNat : Int), .int .u8 (y2.toNat : Int), .int .u8 (y3.toNat : Int), .int .u8 (y4.toNat : Int), .int .u8 (y5.toNat : Int), .int .u8 (y6.toNat : Int), .int .u8 (y7.toNat : Int), .int .u32 ((num false ((b.drop 8).take 4) : Nat) : Int), .int .i16 (IntKind.i16.wrap ((num false ((b.drop 12).take 2) : Nat) : Int)), .int .u16 ((num false ((b.drop 14).take 2) : Nat) : Int), .int .u8 ((num false ((b.drop 16).take 1) : Nat) : Int), .int .u8 ((num false ((b.drop 17).take 1) : Nat) : Int)]).toArray 99))).chg (Chg.of_below (S := fun x => w.heap.size ≤ x) bb (fun _ _ h => h)) (by omega) (fun x hx => by have := (hD0.out x hx); omega))
          have C6 := Lib.hid ((hC.out.alloc (.cells ([.int .u8 (y0.toNat : Int), .int .u8 (y1.toNat : Int), .int .u8 (y2.toNat : Int), .int .u8 (y3.toNat : Int), .int .u8 (y4.toNat : Int), .int .u8 (y5.toNat : Int), .int .u8 (y6.toNat : Int), .int .u8 (y7.toNat : Int), .int .u32 ((num false ((b.drop 8).take 4) : Nat) : Int), .int .i16 (IntKind.i16.wrap ((num false ((b.drop 12).take 2) : Nat) : Int)), .int .u16 ((num false ((b.drop 14).take 2) : Nat) : Int), .int .u8 ((num false ((b.drop 16).take 1) : Nat) : Int), .int .u8 ((num false ((b.drop 17).take 1) : Nat) : Int)]).toArray 99)).trans (Chg.of_below (S := fun x => x = M ∨ w.heap.size ≤ x) bb (fun x _ hx => .inr hx)))
          rw [← hcells.out, ← hrs] at hown1
          replace hown1 := Lib.hid hown1
          have hst2 := Lib.hid (congrArg (·.2) hst)
          clear hg1 hat1 bb own4 own5 hrc R4 hC hst hrs
          go_wp2
          go_roundw
          case rel => exact ⟨k + 1, by omega, by omega, by go_num, by rw [hst2.out]; rfl, hown1, R5, C6⟩
          case measure => simp [intOf]; omega
        ·
          obtain ⟨m, hm⟩ : ∃ m, (symSt (l.drop place) k).2 = m + 1 := ⟨_, (Nat.succ_pred_eq_of_pos (Nat.pos_of_ne_zero hna)).symm⟩
          have hml := symSt_lt (l.drop place) k
          have hst := symSt_pos hna
          have hrs := symRow_pos hna
          rw [hbk.out] at hst hrs
          rw [hm] at hst
          have hna0 : (((m : Int) + 1) == 0) = false := by rw [beq_eq_false_iff_ne]; omega
          have hm1 : IntKind.i64.wrap ((m : Int) + 1 - 1) = (m : Int) := by rw [show ((m : Int) + 1 - 1) = (m : Int) by omega]; exact IntWalk.i64_in _ (by omega)
          have hm2 : IntKind.i64.wrap (m : Int) = (m : Int) := IntWalk.i64_in _ (by omega)
          rw [hm] at hnn
          obtain rfl : u10 = .int .i64 ((m : Int) + 1) := by rw [hnn]; simp
          go_wp2_with fail
          refine (readAux_all wr.heap.size M _ D l (place + 18 * k) 99 _ Ra hps (by omega) hVD Va).mono ?_
          rintro e w4 ⟨rfl, R4, V4, C4⟩
          rw [hB.out] at V4
          obtain ⟨y0, y1, y2, y3, y4, y5, y6, y7, hy, hrw⟩ := fAux_row b hb18.out
          have hcells := Lib.hid (show symCells (auxL b) = [.int .u8 (y0.toNat : Int), .int .u8 (y1.toNat : Int), .int .u8 (y2.toNat : Int), .int .u8 (y3.toNat : Int), .int .u8 (y4.toNat : Int), .int .u8 (y5.toNat : Int), .int .u8 (y6.toNat : Int), .int .u8 (y7.toNat : Int), .int .u32 ((num false ((b.drop 8).take 4) : Nat) : Int), .int .i16 (IntKind.i16.wrap ((num false ((b.drop 12).take 2) : Nat) : Int)), .int .u16 (IntKind.u16.wrap ((num false ((b.drop 14).take 1) : Nat) : Int)), .int .u8 0, .int .u8 0] from (fAux_eq b).symm.trans hrw)
          rw [fAux_eq, hcells.out] at V4
          clear hy hrw
          replace V4 := V4.out
          have d0 : w4.cell? ⟨wr.heap.size, 0, none⟩ = some (.int .u8 (y0.toNat : Int)) := World.cell?_of_row V4 0 _ rfl
          have d1 : w4.cell? ⟨wr.heap.size, 1, none⟩ = some (.int .u8 (y1.toNat : Int)) := World.cell?_of_row V4 1 _ rfl
          have d2 : w4.cell? ⟨wr.heap.size, 2, none⟩ = some (.int .u8 (y2.toNat : Int)) := World.cell?_of_row V4 2 _ rfl
          have d3 : w4.cell? ⟨wr.heap.size, 3, none⟩ = some (.int .u8 (y3.toNat : Int)) := World.cell?_of_row V4 3 _ rfl
          have d4 : w4.cell? ⟨wr.heap.size, 4, none⟩ = some (.int .u8 (y4.toNat : Int)) := World.cell?_of_row V4 4 _ rfl
          have d5 : w4.cell? ⟨wr.heap.size, 5, none⟩ = some (.int .u8 (y5.toNat : Int)) := World.cell?_of_row V4 5 _ rfl
          have d6 : w4.cell? ⟨wr.heap.size, 6, none⟩ = some (.int .u8 (y6.toNat : Int)) := World.cell?_of_row V4 6 _ rfl
          have d7 : w4.cell? ⟨wr.heap.size, 7, none⟩ = some (.int .u8 (y7.toNat : Int)) := World.cell?_of_row V4 7 _ rfl
          have d8 : w4.cell? ⟨wr.heap.size, 8, none⟩ = some (.int .u32 ((num false ((b.drop 8).take 4) : Nat) : Int)) := World.cell?_of_row V4 8 _ rfl
          have d9 : w4.cell? ⟨wr.heap.size, 9, none⟩ = some (.int .i16 (IntKind.i16.wrap ((num false ((b.drop 12).take 2) : Nat) : Int))) := World.cell?_of_row V4 9 _ rfl
          have d10 : w4.cell? ⟨wr.heap.size, 10, none⟩ = some (.int .u16 (IntKind.u16.wrap ((num false ((b.drop 14).take 1) : Nat) : Int))) := World.cell?_of_row V4 10 _ rfl
          have d11 : w4.cell? ⟨wr.heap.size, 11, none⟩ = some (.int .u8 0) := World.cell?_of_row V4 11 _ rfl
          have d12 : w4.cell? ⟨wr.heap.size, 12, none⟩ = some (.int .u8 0) := World.cell?_of_row V4 12 _ rfl
          have C5 : Chg (fun x => x = M) wr w4 := ((Chg.refl (fun x => x = M) wr).alloc (.cells #[.int .u8 0, .int .u8 0, .int .u8 0, .int .u8 0, .int .u8 0, .int .u8 0, .int .u8 0, .int .u8 0, .int .u32 0, .int .i16 0, .int .u16 0, .int .u8 0, .int .u8 0] 99)).trans (C4.mono (fun x _ hx => by rcases hx with hx | hx <;> omega))
          have hz5 := C5.size
          have own4 := Lib.hid (hown.out.kept (w' := w4) (row := some M) ⟨C5.os, C5.tape, C5.output, C5.size, fun x hx hne => C5.block x hx (fun e => hne (by rw [e]))⟩ (by
            cases hq : u9.ownBlock with
            | none => exact .inl rfl
            | some q => exact .inr (fun e => by have h1 := (hown.out.lt q hq).1; simp only [Option.some.injEq] at e; omega)))
          have own5 := Lib.hid (own4.out.alloc (.cells ([.int .u8 (y0.toNat : Int), .int .u8 (y1.toNat : Int), .int .u8 (y2.toNat : Int), .int .u8 (y3.toNat : Int), .int .u8 (y4.toNat : Int), .int .u8 (y5.toNat : Int), .int .u8 (y6.toNat : Int), .int .u8 (y7.toNat : Int), .int .u32 ((num false ((b.drop 8).take 4) : Nat) : Int), .int .i16 (IntKind.i16.wrap ((num false ((b.drop 12).take 2) : Nat) : Int)), .int .u16 (IntKind.u16.wrap ((num false ((b.drop 14).take 1) : Nat) : Int)), .int .u8 0, .int .u8 0]).toArray 99))
          have hrc := rc_newN (w := w4) (vs := [.int .u8 (y0.toNat : Int), .int .u8 (y1.toNat : Int), .int .u8 (y2.toNat : Int), .int .u8 (y3.toNat : Int), .int .u8 (y4.toNat : Int), .int .u8 (y5.toNat : Int), .int .u8 (y6.toNat : Int), .int .u8 (y7.toNat : Int), .int .u32 ((num false ((b.drop 8).take 4) : Nat) : Int), .int .i16 (IntKind.i16.wrap ((num false ((b.drop 12).take 2) : Nat) : Int)), .int .u16 (IntKind.u16.wrap ((num false ((b.drop 14).take 1) : Nat) : Int)), .int .u8 0, .int .u8 0]) (T := 99) (k := w4.heap.size) (size := 13) (n := 1) rfl rfl
          replace hC := Lib.hid (hC.out.trans (C5.mono (fun x _ hx => .inl hx)))
          clear C4 C5 V4 Va Ra hown
          go_wp2_with (at_builtin; refine Stop.mk ?_)
          refine Stop.go ?_
          refine wpList_append_any rfl (.tmp 75) (.tmp 77) 91 rfl w.heap.size 99 i0 _ 13 20 Tryz.underlying91 hi hz0 hz1 hz2 rfl (by omega) u9 k _ rfl own5.out (some ⟨w4.heap.size, 0, none⟩) 1 1 [.int .u8 (y0.toNat : Int), .int .u8 (y1.toNat : Int), .int .u8 (y2.toNat : Int), .int .u8 (y3.toNat : Int), .int .u8 (y4.toNat : Int), .int .u8 (y5.toNat : Int), .int .u8 (y6.toNat : Int), .int .u8 (y7.toNat : Int), .int .u32 ((num false ((b.drop 8).take 4) : Nat) : Int), .int .i16 (IntKind.i16.wrap ((num false ((b.drop 12).take 2) : Nat) : Int)), .int .u16 (IntKind.u16.wrap ((num false ((b.drop 14).take 1) : Nat) : Int)), .int .u8 0, .int .u8 0] rfl hrc (List.all_eq_true.1 rfl) (by simp only [maxLen]; omega) (by omega) (by simp; omega) ?_
          intro v1 w5 hown1 hg1 hat1
          have bb : Below w.heap.size (w4.alloc (.cells ([.int .u8 (y0.toNat : Int), .int .u8 (y1.toNat : Int), .int .u8 (y2.toNat : Int), .int .u8 (y3.toNat : Int), .int .u8 (y4.toNat : Int), .int .u8 (y5.toNat : Int), .int .u8 (y6.toNat : Int), .int .u8 (y7.toNat : Int), .int .u32 ((num false ((b.drop 8).take 4) : Nat) : Int), .int .i16 (IntKind.i16.wrap ((num false ((b.drop 12).take 2) : Nat) : Int)), .int .u16 (IntKind.u16.wrap ((num false ((b.drop 14).take 1) : Nat) : Int)), .int .u8 0, .int .u8 0]).toArray 99)) w5 := (Below.refl _ _).grown hg1 (by simp; omega) (fun q hq => (own5.out.lt q hq).1)
          have R5 := Lib.hid ((R4.out.later ((Below.refl _ w4).alloc (Nat.le_refl _) (.cells ([.int .u8 (y0.toNat : Int), .int .u8 (y1.toNat : Int), .int .u8 (y2.toNat : Int), .int .u8 (y3.toNat : Int), .int .u8 (y4.toNat : Int), .int .u8 (y5.toNat : Int), .int .u8 (y6.toNat : Int), .int .u8 (y7.toNat : Int), .int .u32 ((num false ((b.drop 8).take 4) : Nat) : Int), .int .i16 (IntKind.i16.wrap ((num false ((b.drop 12).take 2) : Nat) : Int)), .int .u16 (IntKind.u16.wrap ((num false ((b.drop 14).take 1) : Nat) : Int)), .int .u8 0, .int .u8 0]).toArray 99))).chg (Chg.of_below (S := fun x => w.heap.size ≤ x) bb (fun _ _ h => h)) (by omega) (fun x hx => by have := (hD0.out x hx); omega))
          have C6 := Lib.hid ((hC.out.alloc (.cells ([.int .u8 (y0.toNat : Int), .int .u8 (y1.toNat : Int), .int .u8 (y2.toNat : Int), .int .u8 (y3.toNat : Int), .int .u8 (y4.toNat : Int), .int .u8 (y5.toNat : Int), .int .u8 (y6.toNat : Int), .int .u8 (y7.toNat : Int), .int .u32 ((num false ((b.drop 8).take 4) : Nat) : Int), .int .i16 (IntKind.i16.wrap ((num false ((b.drop 12).take 2) : Nat) : Int)), .int .u16 (IntKind.u16.wrap ((num false ((b.drop 14).take 1) : Nat) : Int)), .int .u8 0, .int .u8 0]).toArray 99)).trans (Chg.of_below (S := fun x => x = M ∨ w.heap.size ≤ x) bb (fun x _ hx => .inr hx)))
          rw [← hcells.out, ← hrs] at hown1
          replace hown1 := Lib.hid hown1
          have hst2 := Lib.hid (congrArg (·.2) hst)
          clear hg1 hat1 bb own4 own5 hrc R4 hC hst hrs
          go_wp2
          go_roundw
          case rel => exact ⟨k + 1, by omega, by omega, by go_num, by rw [hst2.out]; simp, hown1, R5, C6⟩
          case measure => simp [intOf]; omega
      · exact absurd (by have := hful.out; omega) hb
    · obtain rfl : k = n := by omega
      rw [hfin.out] at hnn
      obtain rfl : u10 = .int .i64 0 := hnn
      go_wp2
      go_ret2
      exact ⟨⟨_, rfl, hown⟩, hRk, hC.out⟩


end Go.Proofs.YtbpebngjpecncaaGreatDoor
