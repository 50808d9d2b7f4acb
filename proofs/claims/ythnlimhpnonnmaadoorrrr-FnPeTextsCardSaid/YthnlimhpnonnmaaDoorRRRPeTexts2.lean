/-
  The contract of readStringTable.
-/
import Derived.Test.YthnlimhpnonnmaaDoorRRRPeTexts1
namespace Go.Proofs.YthnlimhpnonnmaaDoorRRR
set_option linter.unusedVariables false
set_option linter.unusedSimpArgs false
open Go Go.RowKit
attribute [local go_sem ↓] Go.wp_at_zero Go.wp_at_succ

set_option maxHeartbeats 400000 in
theorem stringTable_zero (H ho : Nat) (rd : Value) (w : World) (h3c : w.cell? ⟨H, ho + 3, none⟩ = some (.int .u32 0)) :
    Calls Tryd.prog 50 #[.pointer (some ⟨H, ho, none⟩), rd] w fun e w' => e = .returned (.tuple #[.slice none 0 0, .nilIface]) ∧ w = w' := by
  go_enter Tryd.func50, Tryd.ntmps50
  go_wp2
  go_ret2
  exact ⟨rfl, rfl⟩

set_option maxRecDepth 100000 in
set_option maxHeartbeats 1000000 in
theorem stringTable_nonum (H ho place n off : Nat) (rd : Value) (M : Nat) (D : Nat → Prop) (l : List UInt8) (pos : Nat) (w : World) (TE TU : TypeId) (vE vU : Value) (hErr : Hid (ErrsAt w TE TU vE vU)) (hR : Hid (Rdr w rd M D l pos)) (hpl : 0 < place) (hoff : (place : Int) + 18 * (n : Int) = (off : Int)) (ho' : off ≤ 4294967295) (hpos : Hid (l.length < off + 4)) (hHM : H ≠ M) (hL : Hid (l.length < 10485760))
    (h3c : w.cell? ⟨H, ho + 3, none⟩ = some (.int .u32 place)) (h4c : w.cell? ⟨H, ho + 4, none⟩ = some (.int .u32 n)) :
    Calls Tryd.prog 50 #[.pointer (some ⟨H, ho, none⟩), rd] w fun e w' => (∃ T v, e = .returned (.tuple #[.slice none 0 0, .iface T v])) ∧ Chg (fun k => k = M) w w' := by
  obtain ⟨A, nn, c, pv, rfl, hrow, hback⟩ := hR.out.opened
  have hM3 := hR.out.m3
  have hMlt := hR.out.lt
  have hn1 : ∀ w, (nilAhead 257 97 (.pointer (some ⟨M, 0, none⟩)) "Seek").run Tryd.prog w = .ok (some false) w := fun w => nilSeek _ ⟨M, 0, none⟩ w
  have hm1 : ∀ w, (method 257 97 (.pointer (some ⟨M, 0, none⟩)) "Seek").run Tryd.prog w = .ok (80, .pointer (some ⟨M, 0, none⟩)) w := fun w => methodSeek _ ⟨M, 0, none⟩ w
  have q1 : IntKind.u32.wrap (18 * (n : Int)) = 18 * (n : Int) := by rw [IntKind.wrap_u32]; omega
  have q2 : IntKind.u32.wrap ((place : Int) + 18 * (n : Int)) = (off : Int) := by rw [IntKind.wrap_u32, hoff]; omega
  have q3 : IntKind.i64.wrap (off : Int) = (off : Int) := IntWalk.i64_in _ (by omega)
  have hp0 : ¬ ((place : Int) ≤ 0) := by omega
  go_enter Tryd.func50, Tryd.ntmps50
  go_wp2
  go_quiet (fail)
  go_wp2_with fail
  refine (seek_any M A nn c off (.int .i64 pos) pv 116 _ (by omega) (by exact hrow)).mono ?_
  rintro e w1 ⟨rfl, row1, C1', hs1⟩
  have C1 : Chg (· = M) w w1 := ⟨C1'.os, C1'.tape, C1'.output, C1'.size, C1'.block⟩
  have R1 := Lib.hid (hback w1 off (.int .i64 (-1)) (by omega) C1 row1.out)
  have hz1 := C1.size
  have hb1 : Below w1.heap.size w1 (w1.alloc (.cells #[.int .u32 0] 31)) := (Below.refl _ _).alloc (Nat.le_refl _) _
  have R2 := Lib.hid (R1.out.later hb1)
  have V2 := Lib.hid (heap_alloc_new w1 (.cells #[.int .u32 0] 31))
  have C2 := Lib.hid (C1.alloc (.cells #[.int .u32 0] 31))
  have hVD : Hid (¬ D w1.heap.size) := Lib.hid (fun e => absurd (R1.out.d _ e).1 (Nat.lt_irrefl _))
  have hM1 := R1.out.lt
  have EE := Lib.hid (hErr.out.chg C2.out (fun e => by omega) (fun e => by omega))
  clear hback h3c h4c C1 C1' row1 hs1 hb1 hn1 hm1
  go_wp2_with fail
  refine (readNumber32_short w1.heap.size M 0 _ D l off _ TE TU vE vU EE R2 hpos).mono ?_
  rintro e w3 ⟨⟨T, v, rfl⟩, C3⟩
  have CC := Lib.hid (C2.out.trans (C3.mono (fun k _ hk => .inl hk)))
  clear C3 C2 R2
  go_wp2_with fail
  refine (errNew _ _).mono ?_
  rintro e wE ⟨⟨T', v', rfl⟩, bE⟩
  have CE := CC.out.trans (Chg.of_below (S := fun x => x = M ∨ w.heap.size ≤ x) bE (fun k _ hk => .inr (by have := CC.out.size; omega)))
  clear bE
  go_wp2
  go_ret2
  exact ⟨⟨_, _, rfl⟩, CE⟩

set_option maxRecDepth 100000 in
set_option maxHeartbeats 1000000 in
theorem stringTable_small (H ho place n off : Nat) (rd : Value) (M : Nat) (D : Nat → Prop) (l : List UInt8) (pos : Nat) (w : World) (hR : Hid (Rdr w rd M D l pos)) (hpl : 0 < place) (hoff : (place : Int) + 18 * (n : Int) = (off : Int)) (ho' : off ≤ 4294967295) (hpos : Hid (off + 4 ≤ l.length)) (hx : num false ((l.drop off).take 4) ≤ 4) (hHM : H ≠ M) (hL : Hid (l.length < 10485760))
    (h3c : w.cell? ⟨H, ho + 3, none⟩ = some (.int .u32 place)) (h4c : w.cell? ⟨H, ho + 4, none⟩ = some (.int .u32 n)) :
    Calls Tryd.prog 50 #[.pointer (some ⟨H, ho, none⟩), rd] w fun e w' => e = .returned (.tuple #[.slice none 0 0, .nilIface]) ∧ Hid (∃ p, Rdr w' rd M D l p) ∧ Chg (fun k => k = M) w w' := by
  obtain ⟨A, nn, c, pv, rfl, hrow, hback⟩ := hR.out.opened
  have hM3 := hR.out.m3
  have hMlt := hR.out.lt
  have hn1 : ∀ w, (nilAhead 257 97 (.pointer (some ⟨M, 0, none⟩)) "Seek").run Tryd.prog w = .ok (some false) w := fun w => nilSeek _ ⟨M, 0, none⟩ w
  have hm1 : ∀ w, (method 257 97 (.pointer (some ⟨M, 0, none⟩)) "Seek").run Tryd.prog w = .ok (80, .pointer (some ⟨M, 0, none⟩)) w := fun w => methodSeek _ ⟨M, 0, none⟩ w
  have q1 : IntKind.u32.wrap (18 * (n : Int)) = 18 * (n : Int) := by rw [IntKind.wrap_u32]; omega
  have q2 : IntKind.u32.wrap ((place : Int) + 18 * (n : Int)) = (off : Int) := by rw [IntKind.wrap_u32, hoff]; omega
  have q3 : IntKind.i64.wrap (off : Int) = (off : Int) := IntWalk.i64_in _ (by omega)
  have hp0 : ¬ ((place : Int) ≤ 0) := by omega
  go_enter Tryd.func50, Tryd.ntmps50
  go_wp2
  go_quiet (fail)
  go_wp2_with fail
  refine (seek_any M A nn c off (.int .i64 pos) pv 116 _ (by omega) (by exact hrow)).mono ?_
  rintro e w1 ⟨rfl, row1, C1', hs1⟩
  have C1 : Chg (· = M) w w1 := ⟨C1'.os, C1'.tape, C1'.output, C1'.size, C1'.block⟩
  have R1 := Lib.hid (hback w1 off (.int .i64 (-1)) (by omega) C1 row1.out)
  have hz1 := C1.size
  have hb1 : Below w1.heap.size w1 (w1.alloc (.cells #[.int .u32 0] 31)) := (Below.refl _ _).alloc (Nat.le_refl _) _
  have R2 := Lib.hid (R1.out.later hb1)
  have V2 := Lib.hid (heap_alloc_new w1 (.cells #[.int .u32 0] 31))
  have C2 := Lib.hid (C1.alloc (.cells #[.int .u32 0] 31))
  have hVD : Hid (¬ D w1.heap.size) := Lib.hid (fun e => absurd (R1.out.d _ e).1 (Nat.lt_irrefl _))
  have hM1 := R1.out.lt
  clear hback h3c h4c C1 C1' row1 hs1 hb1 hn1 hm1
  go_wp2_with fail
  refine (readNumber32_all w1.heap.size M 0 [] [] 0 _ D l off 31 _ (Lib.hid rfl) R2 hpos (by omega) hVD (by exact V2)).mono ?_
  rintro e w3 ⟨rfl, R3, V3, C3⟩
  have CC := Lib.hid (C2.out.trans (C3.mono (fun k _ hk => by rcases hk with hk | hk <;> omega)))
  have d3 : w3.cell? ⟨w1.heap.size, 0, none⟩ = some (.int .u32 ((num false ((l.drop off).take 4) : Nat) : Int)) := cell_of_row _ _ 0 _ _ _ V3.out
  have f3 : w3.frozen? ⟨w1.heap.size, 0, none⟩ = false := frozen_of_row _ _ 0 _ _ V3.out
  have hz3 := C3.size
  clear C3 C2 R2 V2
  have hle : ((num false ((l.drop off).take 4) : Nat) : Int) ≤ 4 := by omega
  clear hx
  go_wp2
  go_ret2
  exact ⟨rfl, Lib.hid ⟨_, R3.out⟩, CC.out⟩

set_option maxRecDepth 100000 in
set_option maxHeartbeats 1000000 in
theorem stringTable_ok (H ho place n off m : Nat) (rd : Value) (M : Nat) (D : Nat → Prop) (l : List UInt8) (pos : Nat) (w : World) (hR : Hid (Rdr w rd M D l pos)) (hpl : 0 < place) (hoff : (place : Int) + 18 * (n : Int) = (off : Int)) (ho' : off ≤ 4294967295) (hpos : Hid (off + 4 + m ≤ l.length)) (hx : num false ((l.drop off).take 4) = m + 4) (hm : 0 < m) (hHM : H ≠ M) (hL : Hid (l.length < 10485760))
    (h3c : w.cell? ⟨H, ho + 3, none⟩ = some (.int .u32 place)) (h4c : w.cell? ⟨H, ho + 4, none⟩ = some (.int .u32 n)) :
    Calls Tryd.prog 50 #[.pointer (some ⟨H, ho, none⟩), rd] w fun e w' => (∃ g, e = .returned (.tuple #[.slice (some ⟨g, 0, none⟩) m m, .nilIface]) ∧ w.heap.size ≤ g ∧ Hid (w'.heap[g]? = some (.cells (((l.drop (off + 4)).take m).map bv).toArray 5 (0, 0)))) ∧ Hid (∃ p, Rdr w' rd M D l p) ∧ Chg (fun k => k = M) w w' := by
  obtain ⟨A, nn, c, pv, rfl, hrow, hback⟩ := hR.out.opened
  have hM3 := hR.out.m3
  have hMlt := hR.out.lt
  have hn1 : ∀ w, (nilAhead 257 97 (.pointer (some ⟨M, 0, none⟩)) "Seek").run Tryd.prog w = .ok (some false) w := fun w => nilSeek _ ⟨M, 0, none⟩ w
  have hm1 : ∀ w, (method 257 97 (.pointer (some ⟨M, 0, none⟩)) "Seek").run Tryd.prog w = .ok (80, .pointer (some ⟨M, 0, none⟩)) w := fun w => methodSeek _ ⟨M, 0, none⟩ w
  have q1 : IntKind.u32.wrap (18 * (n : Int)) = 18 * (n : Int) := by rw [IntKind.wrap_u32]; omega
  have q2 : IntKind.u32.wrap ((place : Int) + 18 * (n : Int)) = (off : Int) := by rw [IntKind.wrap_u32, hoff]; omega
  have q3 : IntKind.i64.wrap (off : Int) = (off : Int) := IntWalk.i64_in _ (by omega)
  have hp0 : ¬ ((place : Int) ≤ 0) := by omega
  go_enter Tryd.func50, Tryd.ntmps50
  go_wp2
  go_quiet (fail)
  go_wp2_with fail
  refine (seek_any M A nn c off (.int .i64 pos) pv 116 _ (by omega) (by exact hrow)).mono ?_
  rintro e w1 ⟨rfl, row1, C1', hs1⟩
  have C1 : Chg (· = M) w w1 := ⟨C1'.os, C1'.tape, C1'.output, C1'.size, C1'.block⟩
  have R1 := Lib.hid (hback w1 off (.int .i64 (-1)) (by omega) C1 row1.out)
  have hz1 := C1.size
  have hb1 : Below w1.heap.size w1 (w1.alloc (.cells #[.int .u32 0] 31)) := (Below.refl _ _).alloc (Nat.le_refl _) _
  have R2 := Lib.hid (R1.out.later hb1)
  have V2 := Lib.hid (heap_alloc_new w1 (.cells #[.int .u32 0] 31))
  have C2 := Lib.hid (C1.alloc (.cells #[.int .u32 0] 31))
  have hVD : Hid (¬ D w1.heap.size) := Lib.hid (fun e => absurd (R1.out.d _ e).1 (Nat.lt_irrefl _))
  have hM1 := R1.out.lt
  clear hback h3c h4c C1 C1' row1 hs1 hb1 hn1 hm1
  go_wp2_with fail
  refine (readNumber32_all w1.heap.size M 0 [] [] 0 _ D l off 31 _ (Lib.hid rfl) R2 (Lib.hid (by have := hpos.out; omega)) (by omega) hVD (by exact V2)).mono ?_
  rintro e w3 ⟨rfl, R3, V3, C3⟩
  have CC := Lib.hid (C2.out.trans (C3.mono (fun k _ hk => by rcases hk with hk | hk <;> omega)))
  have d3 : w3.cell? ⟨w1.heap.size, 0, none⟩ = some (.int .u32 ((num false ((l.drop off).take 4) : Nat) : Int)) := cell_of_row _ _ 0 _ _ _ V3.out
  have f3 : w3.frozen? ⟨w1.heap.size, 0, none⟩ = false := frozen_of_row _ _ 0 _ _ V3.out
  have hz3 := C3.size
  clear C3 C2 R2 V2
  have hxb := num_lt false ((l.drop off).take 4)
  have hxl : ((l.drop off).take 4).length = 4 := by have := hpos.out; simp; omega
  rw [hxl, hx] at hxb
  simp only [Nat.reducePow] at hxb
  rw [hx] at d3
  have em : ((m + 4 : Nat) : Int) = (m : Int) + 4 := by omega
  rw [em] at d3
  have qa : IntKind.u32.wrap ((m : Int) + 4 - 4) = (m : Int) := by rw [IntKind.wrap_u32]; omega
  have qb : IntKind.u32.wrap (m : Int) = (m : Int) := by rw [IntKind.wrap_u32]; omega
  have qc : IntKind.u64.wrap (m : Int) = (m : Int) := IntWalk.u64_in _ (by omega)
  have qd : ¬ ((m : Int) + 4 ≤ 4) := by omega
  have qe : ¬ ((m : Int) ≤ 0) := by omega
  have hW : Chg (· = w1.heap.size) w3 (w3.setCell ⟨w1.heap.size, 0, none⟩ (.int .u32 m)) := (Chg.refl (· = w1.heap.size) w3).setCell ⟨w1.heap.size, 0, none⟩ _ (.inl rfl)
  have R4 := Lib.hid (R3.out.chg hW (by omega) (fun k hk e => hVD.out (e ▸ hk)))
  have C4 := Lib.hid (CC.out.trans (hW.mono (fun k _ hk => .inr (by omega))))
  replace em := Lib.hid em
  replace hx := Lib.hid hx
  have hsz4 : (w3.setCell ⟨w1.heap.size, 0, none⟩ (.int .u32 m)).heap.size = w3.heap.size := by simp
  replace hsz4 := Lib.hid hsz4
  have hzc := CC.out.size
  clear hxl hW CC
  go_wp2_with fail
  refine (readData_all m M _ D l (off + 4) _ R4 hpos hm (by have := hpos.out; have := hL.out; omega)).mono ?_
  rintro e w5 ⟨⟨g, rfl, hg, G5⟩, R5, C5⟩
  rw [hsz4.out] at hg
  have C6 := C4.out.trans (C5.mono (fun k _ hk => .inl hk))
  clear C5 C4 R4
  go_wp2
  go_ret2
  exact ⟨⟨g, rfl, by omega, G5⟩, Lib.hid ⟨_, R5.out⟩, C6⟩

set_option maxRecDepth 100000 in
set_option maxHeartbeats 1000000 in
theorem stringTable_bad (H ho place n off m : Nat) (rd : Value) (M : Nat) (D : Nat → Prop) (l : List UInt8) (pos : Nat) (w : World) (TE TU : TypeId) (vE vU : Value) (hErr : Hid (ErrsAt w TE TU vE vU)) (hR : Hid (Rdr w rd M D l pos)) (hpl : 0 < place) (hoff : (place : Int) + 18 * (n : Int) = (off : Int)) (ho' : off ≤ 4294967295) (hpos : Hid (off + 4 ≤ l.length)) (hx : num false ((l.drop off).take 4) = m + 4) (hm : 0 < m) (hbad : Hid (l.length < off + 4 + m)) (hHM : H ≠ M) (hL : Hid (l.length < 10485760))
    (h3c : w.cell? ⟨H, ho + 3, none⟩ = some (.int .u32 place)) (h4c : w.cell? ⟨H, ho + 4, none⟩ = some (.int .u32 n)) :
    Calls Tryd.prog 50 #[.pointer (some ⟨H, ho, none⟩), rd] w fun e w' => (∃ T v, e = .returned (.tuple #[.slice none 0 0, .iface T v])) ∧ Chg (fun k => k = M) w w' := by
  obtain ⟨A, nn, c, pv, rfl, hrow, hback⟩ := hR.out.opened
  have hM3 := hR.out.m3
  have hMlt := hR.out.lt
  have hn1 : ∀ w, (nilAhead 257 97 (.pointer (some ⟨M, 0, none⟩)) "Seek").run Tryd.prog w = .ok (some false) w := fun w => nilSeek _ ⟨M, 0, none⟩ w
  have hm1 : ∀ w, (method 257 97 (.pointer (some ⟨M, 0, none⟩)) "Seek").run Tryd.prog w = .ok (80, .pointer (some ⟨M, 0, none⟩)) w := fun w => methodSeek _ ⟨M, 0, none⟩ w
  have q1 : IntKind.u32.wrap (18 * (n : Int)) = 18 * (n : Int) := by rw [IntKind.wrap_u32]; omega
  have q2 : IntKind.u32.wrap ((place : Int) + 18 * (n : Int)) = (off : Int) := by rw [IntKind.wrap_u32, hoff]; omega
  have q3 : IntKind.i64.wrap (off : Int) = (off : Int) := IntWalk.i64_in _ (by omega)
  have hp0 : ¬ ((place : Int) ≤ 0) := by omega
  go_enter Tryd.func50, Tryd.ntmps50
  go_wp2
  go_quiet (fail)
  go_wp2_with fail
  refine (seek_any M A nn c off (.int .i64 pos) pv 116 _ (by omega) (by exact hrow)).mono ?_
  rintro e w1 ⟨rfl, row1, C1', hs1⟩
  have C1 : Chg (· = M) w w1 := ⟨C1'.os, C1'.tape, C1'.output, C1'.size, C1'.block⟩
  have R1 := Lib.hid (hback w1 off (.int .i64 (-1)) (by omega) C1 row1.out)
  have hz1 := C1.size
  have hb1 : Below w1.heap.size w1 (w1.alloc (.cells #[.int .u32 0] 31)) := (Below.refl _ _).alloc (Nat.le_refl _) _
  have R2 := Lib.hid (R1.out.later hb1)
  have V2 := Lib.hid (heap_alloc_new w1 (.cells #[.int .u32 0] 31))
  have C2 := Lib.hid (C1.alloc (.cells #[.int .u32 0] 31))
  have hVD : Hid (¬ D w1.heap.size) := Lib.hid (fun e => absurd (R1.out.d _ e).1 (Nat.lt_irrefl _))
  have hM1 := R1.out.lt
  have EE := Lib.hid (hErr.out.chg C2.out (fun e => by omega) (fun e => by omega))
  clear hback h3c h4c C1 C1' row1 hs1 hb1 hn1 hm1
  go_wp2_with fail
  refine (readNumber32_all w1.heap.size M 0 [] [] 0 _ D l off 31 _ (Lib.hid rfl) R2 hpos (by omega) hVD (by exact V2)).mono ?_
  rintro e w3 ⟨rfl, R3, V3, C3⟩
  have CC := Lib.hid (C2.out.trans (C3.mono (fun k _ hk => by rcases hk with hk | hk <;> omega)))
  have d3 : w3.cell? ⟨w1.heap.size, 0, none⟩ = some (.int .u32 ((num false ((l.drop off).take 4) : Nat) : Int)) := cell_of_row _ _ 0 _ _ _ V3.out
  have f3 : w3.frozen? ⟨w1.heap.size, 0, none⟩ = false := frozen_of_row _ _ 0 _ _ V3.out
  have hz3 := C3.size
  clear C3 C2 R2 V2
  have hxb := num_lt false ((l.drop off).take 4)
  have hxl : ((l.drop off).take 4).length = 4 := by have := hpos.out; simp; omega
  rw [hxl, hx] at hxb
  simp only [Nat.reducePow] at hxb
  rw [hx] at d3
  have em : ((m + 4 : Nat) : Int) = (m : Int) + 4 := by omega
  rw [em] at d3
  have qa : IntKind.u32.wrap ((m : Int) + 4 - 4) = (m : Int) := by rw [IntKind.wrap_u32]; omega
  have qb : IntKind.u32.wrap (m : Int) = (m : Int) := by rw [IntKind.wrap_u32]; omega
  have qc : IntKind.u64.wrap (m : Int) = (m : Int) := IntWalk.u64_in _ (by omega)
  have qd : ¬ ((m : Int) + 4 ≤ 4) := by omega
  have qe : ¬ ((m : Int) ≤ 0) := by omega
  have hW : Chg (· = w1.heap.size) w3 (w3.setCell ⟨w1.heap.size, 0, none⟩ (.int .u32 m)) := (Chg.refl (· = w1.heap.size) w3).setCell ⟨w1.heap.size, 0, none⟩ _ (.inl rfl)
  have R4 := Lib.hid (R3.out.chg hW (by omega) (fun k hk e => hVD.out (e ▸ hk)))
  have C4 := Lib.hid (CC.out.trans (hW.mono (fun k _ hk => .inr (by omega))))
  replace em := Lib.hid em
  replace hx := Lib.hid hx
  have hsz4 : (w3.setCell ⟨w1.heap.size, 0, none⟩ (.int .u32 m)).heap.size = w3.heap.size := by simp
  replace hsz4 := Lib.hid hsz4
  have hzc := CC.out.size
  clear hxl hW CC
  have E4 := Lib.hid (hErr.out.chg C4.out (fun e => by omega) (fun e => by omega))
  go_wp2_with fail
  refine (readData_short m M _ D l (off + 4) _ TE TU vE vU E4 R4 hbad hm (by omega) hL).mono ?_
  rintro e w5 ⟨⟨T, v, rfl⟩, C5⟩
  have CC := Lib.hid (C4.out.trans (C5.mono (fun k _ hk => .inl hk)))
  clear C5 C4 R4
  go_wp2_with fail
  refine (errNew _ _).mono ?_
  rintro e wE ⟨⟨T', v', rfl⟩, bE⟩
  have CE := CC.out.trans (Chg.of_below (S := fun x => x = M ∨ w.heap.size ≤ x) bE (fun k _ hk => .inr (by have := CC.out.size; omega)))
  clear bE
  go_wp2
  go_ret2
  exact ⟨⟨_, _, rfl⟩, CE⟩
end Go.Proofs.YthnlimhpnonnmaaDoorRRR
