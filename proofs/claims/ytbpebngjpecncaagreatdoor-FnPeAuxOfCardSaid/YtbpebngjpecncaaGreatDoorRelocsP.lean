/-
  Relocations: the contracts of readRelocTable, readRelocs over a section.
-/
import Derived.Test.YtbpebngjpecncaaGreatDoorRelocP
import Derived.Test.YtbpebngjpecncaaGreatDoorSeekP
import Derived.Test.YtbpebngjpecncaaGreatDoorRecs
namespace Go.Proofs.YtbpebngjpecncaaGreatDoor
set_option linter.unusedVariables false
set_option linter.unusedSimpArgs false
set_option maxRecDepth 100000
open Go Go.RowKit
attribute [local go_sem ↓] Go.wp_at_zero Go.wp_at_succ

/-- So many relocations of noughts; those out of bytes. -/
def zerosR : Nat → List Value
  | 0 => []
  | n + 1 => .int .u32 0 :: .int .u32 0 :: .int .u16 0 :: zerosR n
def relocRow (s : List UInt8) : Nat → List Value
  | 0 => []
  | n + 1 => relocRow s n ++ fReloc false ((s.drop (10 * n)).take 10)
theorem relocRow_len (s : List UInt8) : ∀ n, (relocRow s n).length = n * 3
  | 0 => rfl
  | n + 1 => by
    rw [relocRow, List.length_append, relocRow_len s n]
    simp [fReloc]
    omega
theorem zerosR_len : ∀ n, (zerosR n).length = n * 3
  | 0 => rfl
  | n + 1 => by
    rw [zerosR]
    simp [zerosR_len n]
    omega

/-- A new slice of noughts, whatever its length. -/
theorem makeBytesN (Z : Nat) (hZ : Z ≤ 1073741824) : ∃ cur : List Value, Hid (Z = cur.length) ∧ ∀ w, (Instr.makeSlice 34 (.int .i64 (Z : Int)) (.int .i64 (Z : Int))).run Tryz.prog w = .ok (.slice (some ⟨w.heap.size, 0, none⟩) Z Z) (w.alloc (.cells cur.toArray 5)) := by
  obtain ⟨i0, hi, hz0, hz1, hz2⟩ := info_parts Tryz.infoByte
  refine ⟨(madeCells (Value.cells (.int .u8 0)) (Z * i0.size)).toList, Lib.hid (by rw [Array.length_toList, size_madeCells, hz1]; omega), fun w => ?_⟩
  have hr := run_make (P := Tryz.prog) w 34 5 i0 (.int .u8 0) Tryz.underlying34 hi hz0 .i64 .i64 Z Z (by omega) (by omega) (by rw [hz2]; omega) (by omega)
  simpa using hr

set_option maxRecDepth 100000 in
set_option maxHeartbeats 1000000 in
theorem readRelocTable_all (rd : Value) (M G : Nat) (D : Nat → Prop) (l : List UInt8) (pos n : Nat) (w : World) (hR : Hid (Rdr w rd M D l pos)) (hpos : Hid (pos + 10 * n ≤ l.length)) (hn : 0 < n) (hn' : n ≤ 65535)
    (hGM : G ≠ M) (hGD : Hid (¬ D G)) (hG : Hid (w.heap[G]? = some (.cells (zerosR n).toArray 190 (0, 0)))) :
    Calls Tryz.prog 56 #[rd, .slice (some ⟨G, 0, none⟩) n n] w fun e w' => e = .returned .nilIface ∧
      Hid (w'.heap[G]? = some (.cells (relocRow ((l.drop pos).take (10 * n)) n).toArray 190 (0, 0))) ∧ Hid (Rdr w' rd M D l (pos + 10 * n)) ∧ Chg (fun k => k = M ∨ k = G) w w' := by
  obtain ⟨cur, hF, hmk⟩ := makeBytesN (10 * n) (by omega)
  have ec : ((10 * n : Nat) : Int) = 10 * (n : Int) := by omega
  rw [ec] at hmk
  have hw1 : IntKind.i64.wrap (10 * (n : Int)) = 10 * (n : Int) := IntWalk.i64_in _ (by omega)
  have hRlt : M < w.heap.size := hR.out.lt
  have hGlt : G < w.heap.size := (Array.getElem?_eq_some_iff.1 hG.out).1
  have g1 := Lib.hid (heap_alloc_new w (.cells cur.toArray 5))
  have c0 : Chg (fun k => k = M ∨ k = G) w (w.alloc (.cells cur.toArray 5)) := (Chg.refl _ w).alloc _
  have G1 := row_alloc hG (.cells cur.toArray 5)
  have R1 := Lib.hid (hR.out.later ((Below.refl _ w).alloc (Nat.le_refl _) (.cells cur.toArray 5)))
  have hgD : Hid (¬ D w.heap.size) := Lib.hid (fun e => absurd (hR.out.d _ e).1 (Nat.lt_irrefl _))
  have hs := Lib.hid (show ((l.drop pos).take (10 * n)).length = 10 * n by have := hpos.out; simp; omega)
  obtain ⟨s, hS⟩ : ∃ s, (l.drop pos).take (10 * n) = s := ⟨_, rfl⟩
  rw [hS] at hs ⊢
  have HS := Lib.hid hS
  replace ec := Lib.hid ec
  clear hS
  go_enter Tryz.func56, Tryz.ntmps56
  go_wp2_with fail
  refine (rdr_full rd M w.heap.size D l pos (10 * n) 5 cur _ R1 hpos (by omega) g1 hF hgD (by omega)).mono ?_
  rintro e w2 ⟨rfl, R2, g2, hc2, hs2⟩
  rw [HS.out] at g2
  have G2 := Lib.hid (hc2.row G1.out (by omega))
  have B2 : Hid (RB w2 (some ⟨w.heap.size, 0, none⟩) s) := Lib.hid (RB.of_row g2.out)
  have C2 : Chg (fun k => k = M ∨ k = G) w w2 := c0.trans (hc2.mono fun k _ e => by rcases e with e | e <;> omega)
  have hg2 : w.heap.size < w2.heap.size := (Array.getElem?_eq_some_iff.1 g2.out).1
  have hM2 : M < w2.heap.size := R2.out.lt
  replace hs2 := Lib.hid hs2
  replace C2 := Lib.hid C2
  clear hc2 g2 g1 c0 G1 R1 hmk hgD
  generalize w.heap.size = g at *
  go_wp2
  go_loopw [8, 24] (fun _ i wr => ∃ k : Nat, k ≤ n ∧ i = .int .i64 k ∧ Hid (wr.heap[G]? = some (.cells (relocRow s k ++ zerosR (n - k)).toArray 190 (0, 0))) ∧ Hid (Chg (· = G) w2 wr)) (fun _ i _ => n - (intOf i).toNat)
  case atStart => exact ⟨0, Nat.zero_le _, rfl, G2, Lib.hid (Chg.refl _ _)⟩
  case round =>
    obtain ⟨k, hk, rfl, hrow, hch⟩ := hrel
    by_cases hkn : k < n
    · have hz := hch.out.size
      have Bk : RB wr (some ⟨g, 10 * k, none⟩) (s.drop (10 * k)) := by
        have := (B2.out.chg hch.out (fun a ha => by cases ha; show ¬ g = G; omega)).drop (c := 10 * n) (by rw [hs.out]; omega) (10 * k)
        rwa [slA_some g 0 (10 * n) (10 * k) (by omega), Nat.zero_add] at this
      have hsl : ∀ W, (Instr.slice 34 (.slice (some ⟨g, 0, none⟩) (10 * n) (10 * n)) (some (.int .i64 (10 * (k : Int)))) none none).run Tryz.prog W = .ok (.slice (some ⟨g, 10 * k, none⟩) (10 * n - 10 * k) (10 * n - 10 * k)) W := fun W => by
        have h := run_slice_from (P := Tryz.prog) Tryz.underlying34 (info_parts Tryz.infoByte).choose_spec.1 (info_parts Tryz.infoByte).choose_spec.2.2.1 (some ⟨g, 0, none⟩) (10 * n) (10 * n) (10 * k) .i64 (by omega) W
        rw [slA_some g 0 (10 * n) (10 * k) (by omega), Nat.zero_add] at h
        rw [show (10 * (k : Int)) = ((10 * k : Nat) : Int) by omega]
        exact h
      have hw2 : IntKind.i64.wrap (10 * (k : Int)) = 10 * (k : Int) := IntWalk.i64_in _ (by omega)
      have hi0 : (0 : Int) ≤ (k : Int) := by omega
      have hi1 : (k : Int) < (n : Int) := by omega
      have er : relocRow s k ++ zerosR (n - k) = relocRow s k ++ ([.int .u32 0, .int .u32 0, .int .u16 0] ++ zerosR (n - (k + 1))) := by
        rw [show n - k = (n - (k + 1)) + 1 by omega]
        rfl
      rw [er] at hrow
      have R0 := Lib.hid (Rdr.made (w := wr) (A := some ⟨g, 10 * k, none⟩) (n := 10 * n - 10 * k) (c := 10 * n - 10 * k) (l := s.drop (10 * k)) (by rw [List.length_drop, hs.out]) (by omega) (Nat.le_refl _) Bk (fun a ha => by cases ha; show g < wr.heap.size; omega))
      have hr1 := row_alloc hrow (.cells #[.slice (some ⟨g, 10 * k, none⟩) (10 * n - 10 * k) (10 * n - 10 * k), .int .i64 0, .int .i64 (-1)] 141)
      have hGlt2 : G < wr.heap.size := (Array.getElem?_eq_some_iff.1 hrow.out).1
      have hO := Lib.hid (relocRow_len s k)
      have hDG : Hid (¬ ∃ a, (some ⟨g, 10 * k, none⟩ : Option Addr) = some a ∧ a.block = G) := Lib.hid (fun ⟨a, ha, e⟩ => by cases ha; simp only at e; omega)
      have hps := Lib.hid (show 0 + 10 ≤ (s.drop (10 * k)).length by rw [List.length_drop, hs.out]; omega)
      clear er Bk
      go_wp2_with fail
      go_region_held3 (fun _ => True) (trivial) (first | (go_at_call 29; refine (newReader _ (some ⟨g, 10 * k, none⟩) (10 * n - 10 * k) (10 * n - 10 * k) rfl _).mono ?_; rintro e w' ⟨rfl, rfl⟩) | (go_at_call 64; refine (readReloc_all G wr.heap.size (relocRow s k) (zerosR (n - (k + 1))) (k * 3) (.iface 85 (.pointer (some ⟨wr.heap.size, 0, none⟩))) (fun b => ∃ a, (some ⟨g, 10 * k, none⟩ : Option Addr) = some a ∧ a.block = b) (s.drop (10 * k)) 0 false 190 _ hO (by first | exact R0 | exact Lib.hid R0.out.drew) hps (by omega) hDG (by exact hr1)).mono ?_; rintro e w4 ⟨rfl, R4, V4, C4⟩; (try replace C4 := Chg.undrew C4)))
      have e2 : relocRow s k ++ (fReloc false (((s.drop (10 * k)).drop 0).take 10) ++ zerosR (n - (k + 1))) = relocRow s (k + 1) ++ zerosR (n - (k + 1)) := by
        rw [List.drop_zero, relocRow, List.append_assoc]
      rw [e2] at V4
      have hch' := Lib.hid (hch.out.trans ((((Chg.refl (fun x => x = G ∨ w2.heap.size ≤ x) wr).alloc (.cells #[.slice (some ⟨g, 10 * k, none⟩) (10 * n - 10 * k) (10 * n - 10 * k), .int .i64 0, .int .i64 (-1)] 141)).trans (C4.mono (fun x _ hx => by rcases hx with hx | hx <;> omega)))))
      clear e2 hsl C4 R4 hr1 R0
      go_wp2
      go_roundw
      case rel => exact ⟨k + 1, by omega, by go_num, V4, hch'⟩
      case measure => simp [intOf]; omega
    · obtain rfl : k = n := by omega
      go_wp2
      go_ret
      rw [Nat.sub_self, zerosR, List.append_nil] at hrow
      have hch2 := C2.out.trans (hch.out.mono (fun x _ hx => .inl (.inr hx)))
      exact ⟨rfl, hrow, Lib.hid (R2.out.chg hch.out (fun e => hGM e.symm) (fun x hx e => hGD.out (e ▸ hx))), hch2⟩

theorem zerosR_flat : ∀ n, (List.replicate n [.int .u32 0, .int .u32 0, .int .u16 0]).flatten = zerosR n
  | 0 => rfl
  | n + 1 => by
    rw [List.replicate_succ, List.flatten_cons, zerosR_flat n]
    rfl
theorem Tryz.infoReloc : (Tryz.prog.info? 190).map (fun i => (i.zero, i.size, i.bytes)) = some (some (.agg #[.int .u32 0, .int .u32 0, .int .u16 0]), 3, 12) := by kernel_rfl
theorem makeRelocs (k : IntKind) (n : Nat) (hn : n ≤ 65535) (w : World) : (Instr.makeSlice 131 (.int k (n : Int)) (.int k (n : Int))).run Tryz.prog w = .ok (.slice (some ⟨w.heap.size, 0, none⟩) n n) (w.alloc (.cells (zerosR n).toArray 190)) := by
  obtain ⟨i0, hi, hz0, hz1, hz2⟩ := info_parts Tryz.infoReloc
  have hr := run_make (P := Tryz.prog) w 131 190 i0 _ Tryz.underlying131 hi hz0 k k n n (by omega) (by omega) (by rw [hz2]; omega) (by omega)
  have e : madeCells (Value.cells (.agg #[.int .u32 0, .int .u32 0, .int .u16 0])) (((n : Int)).toNat * i0.size) = (zerosR n).toArray := by
    rw [hz1]
    apply Array.toList_inj.1
    have := made_flat #[.int .u32 0, .int .u32 0, .int .u16 0] n
    rw [← zerosR_flat]
    simpa [Value.cells] using this
  rw [e] at hr
  simpa using hr

set_option maxHeartbeats 400000 in
theorem readRelocs_zero (H ho : Nat) (rd : Value) (w : World) (h7 : w.cell? ⟨H, ho + 7, none⟩ = some (.int .u16 0)) :
    Calls Tryz.prog 42 #[.pointer (some ⟨H, ho, none⟩), rd] w fun e w' => e = .returned (.tuple #[.slice none 0 0, .nilIface]) ∧ w = w' := by
  go_enter Tryz.func42, Tryz.ntmps42
  go_wp2
  go_ret2
  exact ⟨rfl, rfl⟩

set_option maxRecDepth 100000 in
set_option maxHeartbeats 1000000 in
theorem readRelocs_all (H ho place n : Nat) (M : Nat) (D : Nat → Prop) (l : List UInt8) (pos : Nat) (w : World) (hR : Hid (Rdr w (secV M) M D l pos)) (hpl : place ≤ 4294967295) (hpos : Hid (place + 10 * n ≤ l.length)) (hn : 0 < n) (hn' : n ≤ 65535) (hHM : H ≠ M)
    (h5 : w.cell? ⟨H, ho + 5, none⟩ = some (.int .u32 place)) (h7 : w.cell? ⟨H, ho + 7, none⟩ = some (.int .u16 n)) :
    Calls Tryz.prog 42 #[.pointer (some ⟨H, ho, none⟩), (secV M)] w fun e w' => (∃ G, e = .returned (.tuple #[.slice (some ⟨G, 0, none⟩) n n, .nilIface]) ∧ w.heap.size ≤ G ∧ Hid (w'.heap[G]? = some (.cells (relocRow ((l.drop place).take (10 * n)) n).toArray 190 (0, 0)))) ∧ Hid (Rdr w' (secV M) M D l (place + 10 * n)) ∧ Chg (fun k => k = M) w w' := by
  have hMlt := hR.out.lt
  have hHlt : H < w.heap.size := World.block_lt_of_cell? w _ h5
  have hn1 : ∀ w, (nilAhead 338 103 (.pointer (some ⟨M, 0, none⟩)) "Seek").run Tryz.prog w = .ok (some false) w := fun w => nilSeek _ ⟨M, 0, none⟩ w
  have hm1 : ∀ w, (method 338 103 (.pointer (some ⟨M, 0, none⟩)) "Seek").run Tryz.prog w = .ok (34, .pointer (some ⟨M, 0, none⟩)) w := fun w => methodSeek _ ⟨M, 0, none⟩ w
  have hwp : IntKind.i64.wrap (place : Int) = (place : Int) := IntWalk.i64_in _ (by omega)
  have hn0 : ¬ ((n : Int) ≤ 0) := by omega
  have hmk := makeRelocs .u16 n hn'
  have hmk2 := fun w => hmk w
  go_enter Tryz.func42, Tryz.ntmps42
  go_wp2_with fail
  go_region_held3 (fun w' => w'.cell? ⟨H, ho + 5, none⟩ = some (.int .u32 place)) (first | go_keep | exact (C1.cell (p := ⟨H, ho + 5, none⟩) hHlt hHM).trans h5) (first | (go_at_call 34; refine (secSeek M pos place D l _ (by omega) (Lib.hid (by first | exact hR.out.drew | exact hR.out))).mono ?_; rintro e w1 ⟨rfl, R1, C1, hs1⟩; (try replace C1 := Chg.undrew C1); replace hs1 := Lib.hid hs1))
  have h71 : w1.cell? ⟨H, ho + 7, none⟩ = some (.int .u16 n) := (C1.cell (p := ⟨H, ho + 7, none⟩) hHlt hHM).trans h7
  have R2 := Lib.hid (R1.out.later ((Below.refl _ w1).alloc (Nat.le_refl _) (.cells (zerosR n).toArray 190)))
  have G2 := Lib.hid (heap_alloc_new w1 (.cells (zerosR n).toArray 190))
  have C2 := Lib.hid (C1.alloc (.cells (zerosR n).toArray 190))
  have hz1 := C1.size
  have hGD : Hid (¬ D w1.heap.size) := Lib.hid (fun e => absurd (R1.out.d _ e).1 (Nat.lt_irrefl _))
  have hM1 := R1.out.lt
  clear h5 h7 C1
  go_wp2_with fail
  refine (readRelocTable_all _ M w1.heap.size D l place n _ R2 hpos hn hn' (by omega) hGD G2).mono ?_
  rintro e w3 ⟨rfl, G3, R3, C3⟩
  have C4 := C2.out.trans (C3.mono (fun k _ hk => by rcases hk with hk | hk <;> omega))
  clear C3 G2 C2 R2
  go_wp2
  go_ret2
  exact ⟨⟨_, rfl, hz1, G3⟩, R3, C4⟩


end Go.Proofs.YtbpebngjpecncaaGreatDoor
