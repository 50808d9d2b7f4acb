/-
  Reading so many bytes, reading the table of texts, from a section.
-/
import Derived.Test.YtbpebngjpecncaaGreatDoorNumbersP
import Derived.Test.YtbpebngjpecncaaGreatDoorRecs
namespace Go.Proofs.YtbpebngjpecncaaGreatDoor
set_option linter.unusedVariables false
set_option linter.unusedSimpArgs false
set_option maxRecDepth 100000
open Go Go.RowKit
attribute [local go_sem ↓] Go.wp_at_zero Go.wp_at_succ

/-- A new slice of noughts, by whatever kind of number its length is told. -/
theorem makeBytesK (K : IntKind) (Z : Nat) (hZ : Z ≤ 1073741824) : ∃ cur : List Value, Hid (Z = cur.length) ∧ ∀ w, (Instr.makeSlice 34 (.int K (Z : Int)) (.int K (Z : Int))).run Tryz.prog w = .ok (.slice (some ⟨w.heap.size, 0, none⟩) Z Z) (w.alloc (.cells cur.toArray 5)) := by
  obtain ⟨i0, hi, hz0, hz1, hz2⟩ := info_parts Tryz.infoByte
  refine ⟨(madeCells (Value.cells (.int .u8 0)) (Z * i0.size)).toList, Lib.hid (by rw [Array.length_toList, size_madeCells, hz1]; omega), fun w => ?_⟩
  have hr := run_make (P := Tryz.prog) w 34 5 i0 (.int .u8 0) Tryz.underlying34 hi hz0 K K Z Z (by omega) (by omega) (by rw [hz2]; omega) (by omega)
  simpa using hr

set_option maxRecDepth 100000 in
set_option maxHeartbeats 1000000 in
theorem readNumber32_all (V M o : Nat) (pre post : List Value) (x : Int) (rd : Value) (D : Nat → Prop) (l : List UInt8) (pos : Nat) (TV : TypeId) (w : World) (hO : Hid (pre.length = o)) (hR : Hid (Rdr w rd M D l pos)) (hpos : Hid (pos + 4 ≤ l.length)) (hVM : V ≠ M) (hVD : Hid (¬ D V))
    (hV : Hid (w.heap[V]? = some (.cells (pre ++ (([.int .u32 x] : List Value) ++ post)).toArray TV (0, 0)))) :
    Calls Tryz.prog 45 #[rd, .iface 154 (.pointer (some ⟨V, o, none⟩))] w fun e w' => e = .returned .nilIface ∧
      Hid (Rdr w' rd M D l (pos + 4)) ∧ Hid (w'.heap[V]? = some (.cells (pre ++ (([.int .u32 ((num false ((l.drop pos).take 4) : Nat) : Int)] : List Value) ++ post)).toArray TV (0, 0))) ∧ Chg (fun k => k = M ∨ k = V) w w' := by
  obtain ⟨cur, hF, hmk⟩ := makeBytes 4 (by omega)
  have hmk : ∀ w, (Instr.makeSlice 34 (.int .i64 4) (.int .i64 4)).run Tryz.prog w = .ok (.slice (some ⟨w.heap.size, 0, none⟩) 4 4) (w.alloc (.cells cur.toArray 5)) := hmk
  have hRlt : M < w.heap.size := hR.out.lt
  have hVlt : V < w.heap.size := (Array.getElem?_eq_some_iff.1 hV.out).1
  have hs := Lib.hid (show ((l.drop pos).take 4).length = 4 by have := hpos.out; simp; omega)
  have g1 := Lib.hid (heap_alloc_new w (.cells cur.toArray 5))
  have c0 : Chg (fun k => k = M ∨ k = V) w (w.alloc (.cells cur.toArray 5)) := (Chg.refl _ w).alloc _
  have V1 := Lib.hid ((Below.heap_alloc w (.cells cur.toArray 5) V hVlt).trans hV.out)
  have R1 := Lib.hid (hR.out.later ((Below.refl _ w).alloc (Nat.le_refl _) (.cells cur.toArray 5)))
  have hgD : Hid (¬ D w.heap.size) := Lib.hid (fun e => absurd (hR.out.d _ e).1 (Nat.lt_irrefl _))
  obtain ⟨s, hS⟩ : ∃ s, (l.drop pos).take 4 = s := ⟨_, rfl⟩
  rw [hS] at hs ⊢
  have ht := Lib.hid (show s.take 4 = s from List.take_of_length_le (by rw [hs.out]; exact Nat.le_refl _))
  have HS := Lib.hid hS
  clear hS
  have ta1 := ta32_8 ⟨V, o, none⟩
  have ta2 := ta32_16 ⟨V, o, none⟩
  have ta3 := ta32_32 ⟨V, o, none⟩
  go_enter Tryz.func45, Tryz.ntmps45
  go_wp2_with fail
  refine (rdr_full rd M w.heap.size D l pos 4 5 cur _ R1 hpos (by omega) g1 hF hgD (by omega)).mono ?_
  rintro e w2 ⟨rfl, R2, g2, hc2, hs2⟩
  rw [HS.out] at g2
  have V2 := Lib.hid (hc2.row V1.out (by omega))
  have B2 : Hid (RB w2 (some ⟨w.heap.size, 0, none⟩) s) := Lib.hid (RB.of_row g2.out)
  have C2 : Chg (fun k => k = M ∨ k = V) w w2 := c0.trans (hc2.mono fun k _ e => by rcases e with e | e <;> omega)
  clear hs2 hc2 g2 g1 c0 V1 R1 hmk hgD
  generalize w.heap.size = g at *
  go_wp2_with fail
  refine (u32_RB false g 0 4 4 s _ B2.out (by rw [hs.out]; omega) (by omega) (by omega)).mono ?_
  rintro e w' ⟨rfl, q, rfl⟩
  rw [ht.out]
  have d0 : w2.cell? ⟨V, o, none⟩ = some (.int .u32 x) := cell_mid hO V2 0 rfl
  have fr0 : w2.frozen? ⟨V, o, none⟩ = false := frozen_of_row _ V o _ _ V2.out
  go_wp2
  obtain ⟨w3, hw3, V3, B3, C3, R3⟩ := storedV (w0 := w) (x := .int .u32 ((num false s : Nat) : Int)) q o V2 B2 C2 R2 (.inr rfl) (by omega) hVM hVD
  replace V3 := set_mid (i := 0) hO (by simp) V3
  simp only [List.set_cons_zero] at V3
  rw [← hw3]
  go_ret
  exact ⟨rfl, R3, V3, C3⟩

set_option maxRecDepth 100000 in
set_option maxHeartbeats 1000000 in
theorem readData_all (n M : Nat) (rd : Value) (D : Nat → Prop) (l : List UInt8) (pos : Nat) (w : World) (hR : Hid (Rdr w rd M D l pos)) (hpos : Hid (pos + n ≤ l.length)) (hn : 0 < n) (hn' : n < 10485760) :
    Calls Tryz.prog 46 #[rd, .int .u64 n] w fun e w' => (∃ g, e = .returned (.tuple #[.slice (some ⟨g, 0, none⟩) n n, .nilIface]) ∧ w.heap.size ≤ g ∧ Hid (w'.heap[g]? = some (.cells (((l.drop pos).take n).map bv).toArray 5 (0, 0)))) ∧ Hid (Rdr w' rd M D l (pos + n)) ∧ Chg (fun k => k = M) w w' := by
  obtain ⟨cur, hF, hmk⟩ := makeBytesK .u64 n (by omega)
  have q1 : IntKind.i64.wrap (n : Int) = (n : Int) := IntWalk.i64_in _ (by omega)
  have q2 : IntKind.u64.wrap (n : Int) = (n : Int) := IntWalk.u64_in _ (by omega)
  have q3 : ¬ ((n : Int) < 0) := by omega
  have q4 : (n : Int) < 10485760 := by omega
  have hRlt : M < w.heap.size := hR.out.lt
  have g1 := Lib.hid (heap_alloc_new w (.cells cur.toArray 5))
  have c0 : Chg (fun k => k = M) w (w.alloc (.cells cur.toArray 5)) := (Chg.refl _ w).alloc _
  have R1 := Lib.hid (hR.out.later ((Below.refl _ w).alloc (Nat.le_refl _) (.cells cur.toArray 5)))
  have hgD : Hid (¬ D w.heap.size) := Lib.hid (fun e => absurd (hR.out.d _ e).1 (Nat.lt_irrefl _))
  go_enter Tryz.func46, Tryz.ntmps46
  go_wp2_with fail
  refine (rdr_full rd M w.heap.size D l pos n 5 cur _ R1 hpos (by omega) g1 hF hgD (by omega)).mono ?_
  rintro e w2 ⟨rfl, R2, g2, hc2, hs2⟩
  have C2 : Chg (fun k => k = M) w w2 := c0.trans (hc2.mono fun k _ e => by rcases e with e | e <;> omega)
  clear hs2 hc2 g1 c0 R1 hmk hgD
  go_wp2
  go_ret2
  exact ⟨⟨_, rfl, Nat.le_refl _, g2⟩, R2, C2⟩

set_option maxHeartbeats 400000 in
theorem stringTable_zero (H ho : Nat) (rd : Value) (w : World) (h3c : w.cell? ⟨H, ho + 3, none⟩ = some (.int .u32 0)) :
    Calls Tryz.prog 36 #[.pointer (some ⟨H, ho, none⟩), rd] w fun e w' => e = .returned (.tuple #[.slice none 0 0, .nilIface]) ∧ w = w' := by
  go_enter Tryz.func36, Tryz.ntmps36
  go_wp2
  go_ret2
  exact ⟨rfl, rfl⟩

set_option maxRecDepth 100000 in
set_option maxHeartbeats 1000000 in
theorem stringTable_small (H ho place n off : Nat) (M : Nat) (D : Nat → Prop) (l : List UInt8) (pos : Nat) (w : World) (hR : Hid (Rdr w (secV M) M D l pos)) (hpl : 0 < place) (hoff : (place : Int) + 18 * (n : Int) = (off : Int)) (ho' : off ≤ 4294967295) (hpos : Hid (off + 4 ≤ l.length)) (hx : num false ((l.drop off).take 4) ≤ 4) (hHM : H ≠ M) (hL : Hid (l.length < 10485760))
    (h3c : w.cell? ⟨H, ho + 3, none⟩ = some (.int .u32 place)) (h4c : w.cell? ⟨H, ho + 4, none⟩ = some (.int .u32 n)) :
    Calls Tryz.prog 36 #[.pointer (some ⟨H, ho, none⟩), (secV M)] w fun e w' => e = .returned (.tuple #[.slice none 0 0, .nilIface]) ∧ Hid (∃ p, Rdr w' (secV M) M D l p) ∧ Chg (fun k => k = M) w w' := by
  have hMlt := hR.out.lt
  have hn1 : ∀ w, (nilAhead 338 103 (.pointer (some ⟨M, 0, none⟩)) "Seek").run Tryz.prog w = .ok (some false) w := fun w => nilSeek _ ⟨M, 0, none⟩ w
  have hm1 : ∀ w, (method 338 103 (.pointer (some ⟨M, 0, none⟩)) "Seek").run Tryz.prog w = .ok (34, .pointer (some ⟨M, 0, none⟩)) w := fun w => methodSeek _ ⟨M, 0, none⟩ w
  have q1 : IntKind.u32.wrap (18 * (n : Int)) = 18 * (n : Int) := by rw [IntKind.wrap_u32]; omega
  have q2 : IntKind.u32.wrap ((place : Int) + 18 * (n : Int)) = (off : Int) := by rw [IntKind.wrap_u32, hoff]; omega
  have q3 : IntKind.i64.wrap (off : Int) = (off : Int) := IntWalk.i64_in _ (by omega)
  have hp0 : ¬ ((place : Int) ≤ 0) := by omega
  go_enter Tryz.func36, Tryz.ntmps36
  go_wp2
  go_quiet (fail)
  go_wp2_with fail
  refine (secSeek M pos off D l _ (by omega) (Lib.hid (hR.out.drewN _))).mono ?_
  rintro e w1 ⟨rfl, R1, C1', hs1⟩
  have C1 : Chg (· = M) w w1 := ⟨C1'.os, C1'.tape, C1'.output, C1'.size, C1'.block⟩
  have hz1 := C1.size
  have hb1 : Below w1.heap.size w1 (w1.alloc (.cells #[.int .u32 0] 22)) := (Below.refl _ _).alloc (Nat.le_refl _) _
  have R2 := Lib.hid (R1.out.later hb1)
  have V2 := Lib.hid (heap_alloc_new w1 (.cells #[.int .u32 0] 22))
  have C2 := Lib.hid (C1.alloc (.cells #[.int .u32 0] 22))
  have hVD : Hid (¬ D w1.heap.size) := Lib.hid (fun e => absurd (R1.out.d _ e).1 (Nat.lt_irrefl _))
  have hM1 := R1.out.lt
  clear h3c h4c C1 C1' hs1 hb1 hn1 hm1
  go_wp2_with fail
  refine (readNumber32_all w1.heap.size M 0 [] [] 0 _ D l off 22 _ (Lib.hid rfl) R2 hpos (by omega) hVD (by exact V2)).mono ?_
  rintro e w3 ⟨rfl, R3, V3, C3⟩
  have CC := Lib.hid (C2.out.trans (C3.mono (fun k _ hk => by rcases hk with hk | hk <;> omega)))
  have d3 : w3.cell? ⟨w1.heap.size, 0, none⟩ = some (.int .u32 ((num false ((l.drop off).take 4) : Nat) : Int)) := cell_of_row _ _ 0 _ _ _ V3.out
  have f3 : w3.frozen? ⟨w1.heap.size, 0, none⟩ = false := frozen_of_row _ _ 0 _ _ V3.out
  have hz3 := C3.size
  clear C3 C2 R2 V2
  have hle : ((num false ((l.drop off).take 4) : Nat) : Int) ≤ 4 := by omega
  clear hx
  go_wp2
  go_ret2
  exact ⟨rfl, Lib.hid ⟨_, R3.out⟩, CC.out⟩

set_option maxRecDepth 100000 in
set_option maxHeartbeats 1000000 in
theorem stringTable_ok (H ho place n off m : Nat) (M : Nat) (D : Nat → Prop) (l : List UInt8) (pos : Nat) (w : World) (hR : Hid (Rdr w (secV M) M D l pos)) (hpl : 0 < place) (hoff : (place : Int) + 18 * (n : Int) = (off : Int)) (ho' : off ≤ 4294967295) (hpos : Hid (off + 4 + m ≤ l.length)) (hx : num false ((l.drop off).take 4) = m + 4) (hm : 0 < m) (hHM : H ≠ M) (hL : Hid (l.length < 10485760))
    (h3c : w.cell? ⟨H, ho + 3, none⟩ = some (.int .u32 place)) (h4c : w.cell? ⟨H, ho + 4, none⟩ = some (.int .u32 n)) :
    Calls Tryz.prog 36 #[.pointer (some ⟨H, ho, none⟩), (secV M)] w fun e w' => (∃ g, e = .returned (.tuple #[.slice (some ⟨g, 0, none⟩) m m, .nilIface]) ∧ w.heap.size ≤ g ∧ Hid (w'.heap[g]? = some (.cells (((l.drop (off + 4)).take m).map bv).toArray 5 (0, 0)))) ∧ Hid (∃ p, Rdr w' (secV M) M D l p) ∧ Chg (fun k => k = M) w w' := by
  have hMlt := hR.out.lt
  have hn1 : ∀ w, (nilAhead 338 103 (.pointer (some ⟨M, 0, none⟩)) "Seek").run Tryz.prog w = .ok (some false) w := fun w => nilSeek _ ⟨M, 0, none⟩ w
  have hm1 : ∀ w, (method 338 103 (.pointer (some ⟨M, 0, none⟩)) "Seek").run Tryz.prog w = .ok (34, .pointer (some ⟨M, 0, none⟩)) w := fun w => methodSeek _ ⟨M, 0, none⟩ w
  have q1 : IntKind.u32.wrap (18 * (n : Int)) = 18 * (n : Int) := by rw [IntKind.wrap_u32]; omega
  have q2 : IntKind.u32.wrap ((place : Int) + 18 * (n : Int)) = (off : Int) := by rw [IntKind.wrap_u32, hoff]; omega
  have q3 : IntKind.i64.wrap (off : Int) = (off : Int) := IntWalk.i64_in _ (by omega)
  have hp0 : ¬ ((place : Int) ≤ 0) := by omega
  go_enter Tryz.func36, Tryz.ntmps36
  go_wp2
  go_quiet (fail)
  go_wp2_with fail
  refine (secSeek M pos off D l _ (by omega) (Lib.hid (hR.out.drewN _))).mono ?_
  rintro e w1 ⟨rfl, R1, C1', hs1⟩
  have C1 : Chg (· = M) w w1 := ⟨C1'.os, C1'.tape, C1'.output, C1'.size, C1'.block⟩
  have hz1 := C1.size
  have hb1 : Below w1.heap.size w1 (w1.alloc (.cells #[.int .u32 0] 22)) := (Below.refl _ _).alloc (Nat.le_refl _) _
  have R2 := Lib.hid (R1.out.later hb1)
  have V2 := Lib.hid (heap_alloc_new w1 (.cells #[.int .u32 0] 22))
  have C2 := Lib.hid (C1.alloc (.cells #[.int .u32 0] 22))
  have hVD : Hid (¬ D w1.heap.size) := Lib.hid (fun e => absurd (R1.out.d _ e).1 (Nat.lt_irrefl _))
  have hM1 := R1.out.lt
  clear h3c h4c C1 C1' hs1 hb1 hn1 hm1
  go_wp2_with fail
  refine (readNumber32_all w1.heap.size M 0 [] [] 0 _ D l off 22 _ (Lib.hid rfl) R2 (Lib.hid (by have := hpos.out; omega)) (by omega) hVD (by exact V2)).mono ?_
  rintro e w3 ⟨rfl, R3, V3, C3⟩
  have CC := Lib.hid (C2.out.trans (C3.mono (fun k _ hk => by rcases hk with hk | hk <;> omega)))
  have d3 : w3.cell? ⟨w1.heap.size, 0, none⟩ = some (.int .u32 ((num false ((l.drop off).take 4) : Nat) : Int)) := cell_of_row _ _ 0 _ _ _ V3.out
  have f3 : w3.frozen? ⟨w1.heap.size, 0, none⟩ = false := frozen_of_row _ _ 0 _ _ V3.out
  have hz3 := C3.size
  clear C3 C2 R2 V2
  have hxb := num_lt false ((l.drop off).take 4)
  have hxl : ((l.drop off).take 4).length = 4 := by have := hpos.out; simp; omega
  rw [hxl, hx] at hxb
  simp only [Nat.reducePow] at hxb
  rw [hx] at d3
  have em : ((m + 4 : Nat) : Int) = (m : Int) + 4 := by omega
  rw [em] at d3
  have qa : IntKind.u32.wrap ((m : Int) + 4 - 4) = (m : Int) := by rw [IntKind.wrap_u32]; omega
  have qb : IntKind.u32.wrap (m : Int) = (m : Int) := by rw [IntKind.wrap_u32]; omega
  have qc : IntKind.u64.wrap (m : Int) = (m : Int) := IntWalk.u64_in _ (by omega)
  have qd : ¬ ((m : Int) + 4 ≤ 4) := by omega
  have qe : ¬ ((m : Int) ≤ 0) := by omega
  have hW : Chg (· = w1.heap.size) w3 (w3.setCell ⟨w1.heap.size, 0, none⟩ (.int .u32 m)) := (Chg.refl (· = w1.heap.size) w3).setCell ⟨w1.heap.size, 0, none⟩ _ (.inl rfl)
  have R4 := Lib.hid (R3.out.chg hW (by omega) (fun k hk e => hVD.out (e ▸ hk)))
  have C4 := Lib.hid (CC.out.trans (hW.mono (fun k _ hk => .inr (by omega))))
  replace em := Lib.hid em
  replace hx := Lib.hid hx
  have hsz4 : (w3.setCell ⟨w1.heap.size, 0, none⟩ (.int .u32 m)).heap.size = w3.heap.size := by simp
  replace hsz4 := Lib.hid hsz4
  have hzc := CC.out.size
  clear hxl hW CC
  go_wp2_with fail
  refine (readData_all m M _ D l (off + 4) _ R4 hpos hm (by have := hpos.out; have := hL.out; omega)).mono ?_
  rintro e w5 ⟨⟨g, rfl, hg, G5⟩, R5, C5⟩
  rw [hsz4.out] at hg
  have C6 := C4.out.trans (C5.mono (fun k _ hk => .inl hk))
  clear C5 C4 R4
  go_wp2
  go_ret2
  exact ⟨⟨g, rfl, by omega, G5⟩, Lib.hid ⟨_, R5.out⟩, C6⟩

/-- The table of texts behind the symbols, where there is one. -/
def textsAt (place off : Nat) (l : List UInt8) : Option (List UInt8) :=
  if place = 0 then some [] else if l.length < off + 4 then none else
    if num false ((l.drop off).take 4) ≤ 4 then some [] else if l.length < off + num false ((l.drop off).take 4) then none else some ((l.drop (off + 4)).take (num false ((l.drop off).take 4) - 4))

theorem stringTable_some (H ho place n off : Nat) (M : Nat) (D : Nat → Prop) (l r : List UInt8) (pos : Nat) (w : World) (hR : Hid (Rdr w (secV M) M D l pos)) (hpl : (place : Int) + 18 * (n : Int) = (off : Int)) (ho' : off ≤ 4294967295) (hn' : n ≤ 4294967295) (hHM : H ≠ M) (hL : Hid (l.length < 10485760)) (h3c : w.cell? ⟨H, ho + 3, none⟩ = some (.int .u32 place)) (h4c : w.cell? ⟨H, ho + 4, none⟩ = some (.int .u32 n)) (hr : textsAt place off l = some r) :
    Calls Tryz.prog 36 #[.pointer (some ⟨H, ho, none⟩), (secV M)] w fun e w' => (∃ A c, e = .returned (.tuple #[.slice A r.length c, .nilIface]) ∧ r.length ≤ c ∧ Hid (RB w' A r) ∧ ∀ a, A = some a → w.heap.size ≤ a.block) ∧ Hid (∃ p, Rdr w' (secV M) M D l p) ∧ Chg (fun k => k = M) w w' := by
  unfold textsAt at hr
  by_cases h0 : place = 0
  · rw [if_pos h0] at hr
    obtain rfl := Option.some.inj hr
    subst h0
    exact (stringTable_zero H ho (secV M) w h3c).mono fun e w' ⟨he, hw⟩ => ⟨⟨none, 0, he, Nat.le_refl _, Lib.hid (RB.nil _ _), fun a ha => by cases ha⟩, hw ▸ Lib.hid ⟨pos, hR.out⟩, hw ▸ Chg.refl _ _⟩
  · rw [if_neg h0] at hr
    by_cases h1 : l.length < off + 4
    · rw [if_pos h1] at hr; cases hr
    · rw [if_neg h1] at hr
      by_cases h2 : num false ((l.drop off).take 4) ≤ 4
      · rw [if_pos h2] at hr
        obtain rfl := Option.some.inj hr
        exact (stringTable_small H ho place n off M D l pos w hR (by omega) hpl ho' (Lib.hid (by omega)) h2 hHM hL h3c h4c).mono fun e w' ⟨he, hp, hw⟩ => ⟨⟨none, 0, he, Nat.le_refl _, Lib.hid (RB.nil _ _), fun a ha => by cases ha⟩, hp, hw⟩
      · rw [if_neg h2] at hr
        obtain ⟨m, hm⟩ : ∃ m, num false ((l.drop off).take 4) = m + 4 := ⟨_, (Nat.sub_add_cancel (by omega)).symm⟩
        rw [hm] at hr h2
        by_cases h3 : l.length < off + (m + 4)
        · rw [if_pos h3] at hr; cases hr
        · rw [if_neg h3, Nat.add_sub_cancel] at hr
          obtain rfl := Option.some.inj hr
          have hlen : ((l.drop (off + 4)).take m).length = m := by simp; omega
          refine (stringTable_ok H ho place n off m M D l pos w hR (by omega) hpl ho' (Lib.hid (by omega)) hm (by omega) hHM hL h3c h4c).mono ?_
          rintro e w' ⟨⟨g, rfl, hg, G⟩, hp, hw⟩
          rw [hlen]
          exact ⟨⟨_, _, rfl, Nat.le_refl _, Lib.hid (RB.of_row G.out), fun a ha => by cases ha; exact hg⟩, hp, hw⟩


end Go.Proofs.YtbpebngjpecncaaGreatDoor
