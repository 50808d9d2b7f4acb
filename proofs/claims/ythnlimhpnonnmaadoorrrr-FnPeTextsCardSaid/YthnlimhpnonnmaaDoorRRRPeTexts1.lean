/-
  Reading a number, reading so many bytes, reading the table of texts.
-/
import Derived.Test.YthnlimhpnonnmaaDoorRRROrd
import Derived.Test.YthnlimhpnonnmaaDoorRRRSeek
import Derived.Test.YthnlimhpnonnmaaDoorRRRName
import Derived.Test.YthnlimhpnonnmaaDoorRRRRecs
namespace Go.Proofs.YthnlimhpnonnmaaDoorRRR
set_option linter.unusedVariables false
set_option linter.unusedSimpArgs false
open Go Go.RowKit
attribute [local go_sem ↓] Go.wp_at_zero Go.wp_at_succ

/-- A new slice of noughts, by whatever kind of number its length is told. -/
theorem makeBytesK (K : IntKind) (Z : Nat) (hZ : Z ≤ 1073741824) : ∃ cur : List Value, Hid (Z = cur.length) ∧ ∀ w, (Instr.makeSlice 22 (.int K (Z : Int)) (.int K (Z : Int))).run Tryd.prog w = .ok (.slice (some ⟨w.heap.size, 0, none⟩) Z Z) (w.alloc (.cells cur.toArray 5)) := by
  obtain ⟨i0, hi, hz0, hz1, hz2⟩ := info_parts Tryd.infoByte
  refine ⟨(madeCells (Value.cells (.int .u8 0)) (Z * i0.size)).toList, Lib.hid (by rw [Array.length_toList, size_madeCells, hz1]; omega), fun w => ?_⟩
  have hr := run_make (P := Tryd.prog) w 22 5 i0 (.int .u8 0) Tryd.underlying22 hi hz0 K K Z Z (by omega) (by omega) (by rw [hz2]; omega) (by omega)
  simpa using hr

theorem ta32_8 (a : Addr) (w : World) : (Instr.typeAssert (.iface 127 (.pointer (some a))) 20 134 true).run Tryd.prog w = .ok (.tuple #[.pointer none, .bool false]) w := by kernel_rfl
theorem ta32_16 (a : Addr) (w : World) : (Instr.typeAssert (.iface 127 (.pointer (some a))) 20 135 true).run Tryd.prog w = .ok (.tuple #[.pointer none, .bool false]) w := by kernel_rfl
theorem ta32_32 (a : Addr) (w : World) : (Instr.typeAssert (.iface 127 (.pointer (some a))) 20 127 true).run Tryd.prog w = .ok (.tuple #[.pointer (some a), .bool true]) w := by kernel_rfl

set_option maxRecDepth 100000 in
set_option maxHeartbeats 1000000 in
theorem readNumber32_all (V M o : Nat) (pre post : List Value) (x : Int) (rd : Value) (D : Nat → Prop) (l : List UInt8) (pos : Nat) (TV : TypeId) (w : World) (hO : Hid (pre.length = o)) (hR : Hid (Rdr w rd M D l pos)) (hpos : Hid (pos + 4 ≤ l.length)) (hVM : V ≠ M) (hVD : Hid (¬ D V))
    (hV : Hid (w.heap[V]? = some (.cells (pre ++ (([.int .u32 x] : List Value) ++ post)).toArray TV (0, 0)))) :
    Calls Tryd.prog 57 #[rd, .iface 127 (.pointer (some ⟨V, o, none⟩))] w fun e w' => e = .returned .nilIface ∧
      Hid (Rdr w' rd M D l (pos + 4)) ∧ Hid (w'.heap[V]? = some (.cells (pre ++ (([.int .u32 ((num false ((l.drop pos).take 4) : Nat) : Int)] : List Value) ++ post)).toArray TV (0, 0))) ∧ Chg (fun k => k = M ∨ k = V) w w' := by
  obtain ⟨cur, hF, hmk⟩ := makeBytes 4 (by omega)
  have hmk : ∀ w, (Instr.makeSlice 22 (.int .i64 4) (.int .i64 4)).run Tryd.prog w = .ok (.slice (some ⟨w.heap.size, 0, none⟩) 4 4) (w.alloc (.cells cur.toArray 5)) := hmk
  have hRlt : M < w.heap.size := hR.out.lt
  have hVlt : V < w.heap.size := (Array.getElem?_eq_some_iff.1 hV.out).1
  have hs := Lib.hid (show ((l.drop pos).take 4).length = 4 by have := hpos.out; simp; omega)
  have g1 := Lib.hid (heap_alloc_new w (.cells cur.toArray 5))
  have c0 : Chg (fun k => k = M ∨ k = V) w (w.alloc (.cells cur.toArray 5)) := (Chg.refl _ w).alloc _
  have V1 := Lib.hid ((Below.heap_alloc w (.cells cur.toArray 5) V hVlt).trans hV.out)
  have R1 := Lib.hid (hR.out.later ((Below.refl _ w).alloc (Nat.le_refl _) (.cells cur.toArray 5)))
  have hgD : Hid (¬ D w.heap.size) := Lib.hid (fun e => absurd (hR.out.d _ e).1 (Nat.lt_irrefl _))
  obtain ⟨s, hS⟩ : ∃ s, (l.drop pos).take 4 = s := ⟨_, rfl⟩
  rw [hS] at hs ⊢
  have ht := Lib.hid (show s.take 4 = s from List.take_of_length_le (by rw [hs.out]; exact Nat.le_refl _))
  have HS := Lib.hid hS
  clear hS
  have ta1 := ta32_8 ⟨V, o, none⟩
  have ta2 := ta32_16 ⟨V, o, none⟩
  have ta3 := ta32_32 ⟨V, o, none⟩
  go_enter Tryd.func57, Tryd.ntmps57
  go_wp2_with fail
  refine (rdr_full rd M w.heap.size D l pos 4 5 cur _ R1 hpos (by omega) g1 hF hgD (by omega)).mono ?_
  rintro e w2 ⟨rfl, R2, g2, hc2, hs2⟩
  rw [HS.out] at g2
  have V2 := Lib.hid (hc2.row V1.out (by omega))
  have B2 : Hid (RB w2 (some ⟨w.heap.size, 0, none⟩) s) := Lib.hid (RB.of_row g2.out)
  have C2 : Chg (fun k => k = M ∨ k = V) w w2 := c0.trans (hc2.mono fun k _ e => by rcases e with e | e <;> omega)
  clear hs2 hc2 g2 g1 c0 V1 R1 hmk hgD
  generalize w.heap.size = g at *
  go_wp2_with fail
  refine (u32_RB false g 0 4 4 s _ B2.out (by rw [hs.out]; omega) (by omega) (by omega)).mono ?_
  rintro e w' ⟨rfl, q, rfl⟩
  rw [ht.out]
  have d0 : w2.cell? ⟨V, o, none⟩ = some (.int .u32 x) := cell_mid hO V2 0 rfl
  have fr0 : w2.frozen? ⟨V, o, none⟩ = false := frozen_of_row _ V o _ _ V2.out
  go_wp2
  obtain ⟨w3, hw3, V3, B3, C3, R3⟩ := storedV (w0 := w) (x := .int .u32 ((num false s : Nat) : Int)) q o V2 B2 C2 R2 (.inr rfl) (by omega) hVM hVD
  replace V3 := set_mid (i := 0) hO (by simp) V3
  simp only [List.set_cons_zero] at V3
  rw [← hw3]
  go_ret
  exact ⟨rfl, R3, V3, C3⟩

set_option maxRecDepth 100000 in
set_option maxHeartbeats 1000000 in
theorem readNumber32_short (V M o : Nat) (rd : Value) (D : Nat → Prop) (l : List UInt8) (pos : Nat) (w : World) (TE TU : TypeId) (vE vU : Value) (hErr : Hid (ErrsAt w TE TU vE vU)) (hR : Hid (Rdr w rd M D l pos)) (hpos : Hid (l.length < pos + 4)) :
    Calls Tryd.prog 57 #[rd, .iface 127 (.pointer (some ⟨V, o, none⟩))] w fun e w' => (∃ T v, e = .returned (.iface T v)) ∧ Chg (fun k => k = M) w w' := by
  obtain ⟨cur, hF, hmk⟩ := makeBytes 4 (by omega)
  have hmk : ∀ w, (Instr.makeSlice 22 (.int .i64 4) (.int .i64 4)).run Tryd.prog w = .ok (.slice (some ⟨w.heap.size, 0, none⟩) 4 4) (w.alloc (.cells cur.toArray 5)) := hmk
  have hRlt : M < w.heap.size := hR.out.lt
  have hM3 : 3 ≤ M := hR.out.m3
  have g1 := Lib.hid (heap_alloc_new w (.cells cur.toArray 5))
  have c0 : Chg (fun k => k = M) w (w.alloc (.cells cur.toArray 5)) := (Chg.refl _ w).alloc _
  have R1 := Lib.hid (hR.out.later ((Below.refl _ w).alloc (Nat.le_refl _) (.cells cur.toArray 5)))
  have E1 := Lib.hid (hErr.out.chg c0 (fun e => by omega) (fun e => by omega))
  have hgD : Hid (¬ D w.heap.size) := Lib.hid (fun e => absurd (hR.out.d _ e).1 (Nat.lt_irrefl _))
  have ta1 := ta32_8 ⟨V, o, none⟩
  have ta2 := ta32_16 ⟨V, o, none⟩
  have ta3 := ta32_32 ⟨V, o, none⟩
  go_enter Tryd.func57, Tryd.ntmps57
  go_wp2_with fail
  refine (rdr_short rd M w.heap.size D l pos 4 5 cur _ TE TU vE vU E1 R1 hpos (by omega) (by omega) g1 hF hgD (by omega) (by omega)).mono ?_
  rintro e w2 ⟨⟨x, T, v, rfl⟩, hc2⟩
  have C2 : Chg (fun k => k = M) w w2 := c0.trans (hc2.mono fun k _ e => by rcases e with e | e <;> omega)
  clear hc2 g1 c0 R1 hmk
  go_wp2
  go_ret
  exact ⟨⟨_, _, rfl⟩, C2⟩

set_option maxRecDepth 100000 in
set_option maxHeartbeats 1000000 in
theorem readData_all (n M : Nat) (rd : Value) (D : Nat → Prop) (l : List UInt8) (pos : Nat) (w : World) (hR : Hid (Rdr w rd M D l pos)) (hpos : Hid (pos + n ≤ l.length)) (hn : 0 < n) (hn' : n < 10485760) :
    Calls Tryd.prog 58 #[rd, .int .u64 n] w fun e w' => (∃ g, e = .returned (.tuple #[.slice (some ⟨g, 0, none⟩) n n, .nilIface]) ∧ w.heap.size ≤ g ∧ Hid (w'.heap[g]? = some (.cells (((l.drop pos).take n).map bv).toArray 5 (0, 0)))) ∧ Hid (Rdr w' rd M D l (pos + n)) ∧ Chg (fun k => k = M) w w' := by
  obtain ⟨cur, hF, hmk⟩ := makeBytesK .u64 n (by omega)
  have q1 : IntKind.i64.wrap (n : Int) = (n : Int) := IntWalk.i64_in _ (by omega)
  have q2 : IntKind.u64.wrap (n : Int) = (n : Int) := IntWalk.u64_in _ (by omega)
  have q3 : ¬ ((n : Int) < 0) := by omega
  have q4 : (n : Int) < 10485760 := by omega
  have hRlt : M < w.heap.size := hR.out.lt
  have g1 := Lib.hid (heap_alloc_new w (.cells cur.toArray 5))
  have c0 : Chg (fun k => k = M) w (w.alloc (.cells cur.toArray 5)) := (Chg.refl _ w).alloc _
  have R1 := Lib.hid (hR.out.later ((Below.refl _ w).alloc (Nat.le_refl _) (.cells cur.toArray 5)))
  have hgD : Hid (¬ D w.heap.size) := Lib.hid (fun e => absurd (hR.out.d _ e).1 (Nat.lt_irrefl _))
  go_enter Tryd.func58, Tryd.ntmps58
  go_wp2_with fail
  refine (rdr_full rd M w.heap.size D l pos n 5 cur _ R1 hpos (by omega) g1 hF hgD (by omega)).mono ?_
  rintro e w2 ⟨rfl, R2, g2, hc2, hs2⟩
  have C2 : Chg (fun k => k = M) w w2 := c0.trans (hc2.mono fun k _ e => by rcases e with e | e <;> omega)
  clear hs2 hc2 g1 c0 R1 hmk hgD
  go_wp2
  go_ret2
  exact ⟨⟨_, rfl, Nat.le_refl _, g2⟩, R2, C2⟩

theorem run_slice_toK {P : Program} {t e : TypeId} (ht : P.underlying t = some (.slice e)) {i : TypeInfo} (hi : P.info? e = some i) (A : Option Addr) (n c k : Nat) (kk : IntKind) (hk : k ≤ c) (W : World) :
    (Instr.slice t (.slice A n c) none (some (.int kk (k : Int))) none).run P W = .ok (.slice A k c) W := by
  have hs : (sizeOf e).run P W = .ok i.size W := by simp [sizeOf, typeInfo, hi]
  have ht' : P.underlying t = some (.slice (P.elem t)) := by simp [Program.elem, ht]
  have he : P.elem t = e := by simp [Program.elem, ht]
  rw [run_slice_h W t A n c ht' kk (k : Int) (by omega) (by omega), he, hs]
  cases A <;> simp [sliced, Addr.add]

set_option maxRecDepth 100000 in
set_option maxHeartbeats 1000000 in
theorem readData_short (n M : Nat) (rd : Value) (D : Nat → Prop) (l : List UInt8) (pos : Nat) (w : World) (TE TU : TypeId) (vE vU : Value) (hErr : Hid (ErrsAt w TE TU vE vU)) (hR : Hid (Rdr w rd M D l pos)) (hpos : Hid (l.length < pos + n)) (hn : 0 < n) (hn' : n ≤ 4294967296) (hL : Hid (l.length < 10485760)) :
    Calls Tryd.prog 58 #[rd, .int .u64 n] w fun e w' => (∃ T v, e = .returned (.tuple #[.slice none 0 0, .iface T v])) ∧ Chg (fun k => k = M) w w' := by
  have q1 : IntKind.i64.wrap (n : Int) = (n : Int) := IntWalk.i64_in _ (by omega)
  have q2 : IntKind.u64.wrap (n : Int) = (n : Int) := IntWalk.u64_in _ (by omega)
  have q3 : ¬ ((n : Int) < 0) := by omega
  have hRlt : M < w.heap.size := hR.out.lt
  have hM3 : 3 ≤ M := hR.out.m3
  have hgD : Hid (¬ D w.heap.size) := Lib.hid (fun e => absurd (hR.out.d _ e).1 (Nat.lt_irrefl _))
  by_cases hc : n < 10485760
  · obtain ⟨cur, hF, hmk⟩ := makeBytesK .u64 n (by omega)
    have q4 : (n : Int) < 10485760 := by omega
    have g1 := Lib.hid (heap_alloc_new w (.cells cur.toArray 5))
    have c0 : Chg (fun k => k = M) w (w.alloc (.cells cur.toArray 5)) := (Chg.refl _ w).alloc _
    have R1 := Lib.hid (hR.out.later ((Below.refl _ w).alloc (Nat.le_refl _) (.cells cur.toArray 5)))
    have E1 := Lib.hid (hErr.out.chg c0 (fun e => by omega) (fun e => by omega))
    go_enter Tryd.func58, Tryd.ntmps58
    go_wp2_with fail
    refine (rdr_short rd M w.heap.size D l pos n 5 cur _ TE TU vE vU E1 R1 hpos (by omega) (by omega) g1 hF hgD (by omega) (by omega)).mono ?_
    rintro e w2 ⟨⟨x, T, v, rfl⟩, hc2⟩
    have C2 : Chg (fun k => k = M) w w2 := c0.trans (hc2.mono fun k _ e => by rcases e with e | e <;> omega)
    clear hc2 g1 c0 R1 hmk
    go_wp2
    go_ret2
    exact ⟨⟨_, _, rfl⟩, C2⟩
  · obtain ⟨cur, hF, hmk⟩ := makeBytesK .i64 10485760 (by omega)
    have hmk : ∀ w, (Instr.makeSlice 22 (.int .i64 10485760) (.int .i64 10485760)).run Tryd.prog w = .ok (.slice (some ⟨w.heap.size, 0, none⟩) 10485760 10485760) (w.alloc (.cells cur.toArray 5)) := hmk
    have q4 : ¬ ((n : Int) < 10485760) := by omega
    have q5 : (0 : Int) < (n : Int) := by omega
    have g1 := Lib.hid (heap_alloc_new w (.cells cur.toArray 5))
    have c0 : Chg (fun k => k = M) w (w.alloc (.cells cur.toArray 5)) := (Chg.refl _ w).alloc _
    have R1 := Lib.hid (hR.out.later ((Below.refl _ w).alloc (Nat.le_refl _) (.cells cur.toArray 5)))
    have E1 := Lib.hid (hErr.out.chg c0 (fun e => by omega) (fun e => by omega))
    have hp2 := Lib.hid (show l.length < pos + 10485760 by have := hL.out; omega)
    have hsl : ∀ W, (Instr.slice 22 (.slice (some ⟨w.heap.size, 0, none⟩) 10485760 10485760) none (some (.int .u64 10485760)) none).run Tryd.prog W = .ok (.slice (some ⟨w.heap.size, 0, none⟩) 10485760 10485760) W := fun W => run_slice_toK (P := Tryd.prog) Tryd.underlying22 (info_parts Tryd.infoByte).choose_spec.1 (some ⟨w.heap.size, 0, none⟩) 10485760 10485760 10485760 .u64 (Nat.le_refl _) W
    by_cases hc2 : n = 10485760
    · have q6 : ¬ ((10485760 : Int) < (n : Int)) := by omega
      have hne := Lib.hid hc2
      subst hc2
      go_enter Tryd.func58, Tryd.ntmps58
      go_wp2
      refine wp_loop_rounds 1 ?_
      rw [rounds_succ]
      go_wp2_with fail
      refine (rdr_short rd M w.heap.size D l pos 10485760 5 cur _ TE TU vE vU E1 R1 hp2 (by omega) (by omega) g1 hF hgD (by omega) (by omega)).mono ?_
      rintro e w2 ⟨⟨x, T, v, rfl⟩, hc2⟩
      have C2 : Chg (fun k => k = M) w w2 := c0.trans (hc2.mono fun k _ e => by rcases e with e | e <;> omega)
      clear hc2 g1 c0 R1 hmk
      go_wp2
      go_ret2
      exact ⟨⟨_, _, rfl⟩, C2⟩
    · have q6 : (10485760 : Int) < (n : Int) := by omega
      go_enter Tryd.func58, Tryd.ntmps58
      go_wp2
      refine wp_loop_rounds 1 ?_
      rw [rounds_succ]
      go_wp2_with fail
      refine (rdr_short rd M w.heap.size D l pos 10485760 5 cur _ TE TU vE vU E1 R1 hp2 (by omega) (by omega) g1 hF hgD (by omega) (by omega)).mono ?_
      rintro e w2 ⟨⟨x, T, v, rfl⟩, hc2⟩
      have C2 : Chg (fun k => k = M) w w2 := c0.trans (hc2.mono fun k _ e => by rcases e with e | e <;> omega)
      clear hc2 g1 c0 R1 hmk
      go_wp2
      go_ret2
      exact ⟨⟨_, _, rfl⟩, C2⟩
end Go.Proofs.YthnlimhpnonnmaaDoorRRR
