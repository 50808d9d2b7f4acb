/-
  The optional header of 32 bits: the walk of readOptionalHeader.
-/
import Derived.Test.YtbpebngjpecncaaGreatDoorOpt0P
namespace Go.Proofs.YtbpebngjpecncaaGreatDoor
set_option linter.unusedVariables false
set_option linter.unusedSimpArgs false
set_option maxRecDepth 100000
open Go Go.RowKit
attribute [local go_sem ↓] Go.wp_at_zero Go.wp_at_succ

/-- The cells of a header of noughts. -/
def zerosO32 : List Value := [.int .u16 0, .int .u8 0, .int .u8 0, .int .u32 0, .int .u32 0, .int .u32 0, .int .u32 0, .int .u32 0, .int .u32 0, .int .u32 0, .int .u32 0, .int .u32 0, .int .u16 0, .int .u16 0, .int .u16 0, .int .u16 0, .int .u16 0, .int .u16 0, .int .u32 0, .int .u32 0, .int .u32 0, .int .u32 0, .int .u16 0, .int .u16 0, .int .u32 0, .int .u32 0, .int .u32 0, .int .u32 0, .int .u32 0, .int .u32 0, .int .u32 0, .int .u32 0, .int .u32 0, .int .u32 0, .int .u32 0, .int .u32 0, .int .u32 0, .int .u32 0, .int .u32 0, .int .u32 0, .int .u32 0, .int .u32 0, .int .u32 0, .int .u32 0, .int .u32 0, .int .u32 0, .int .u32 0, .int .u32 0, .int .u32 0, .int .u32 0, .int .u32 0, .int .u32 0, .int .u32 0, .int .u32 0, .int .u32 0, .int .u32 0, .int .u32 0, .int .u32 0, .int .u32 0, .int .u32 0, .int .u32 0, .int .u32 0]

set_option maxHeartbeats 8000000 in
theorem readOptQ32 (M n S pos : Nat) (D : Nat → Prop) (l : List UInt8) (w : World) (hn : n ≤ 16) (hS : Hid (S = 96 + 8 * n)) (hR : Hid (Rdr w (secV M) M D l pos)) (hmag : Hid (num false ((l.drop pos).take 2) = 267)) (hcnt : Hid (num false ((l.drop (pos + 92)).take 4) = n)) (hpos : Hid (pos + 96 + 8 * n ≤ l.length)) :
    Calls Tryz.prog 39 #[secV M, .int .u16 (S : Int)] w fun e w' => (∃ T p, e = .returned (.tuple #[.iface T p, .nilIface])) ∧ Hid (Rdr w' (secV M) M D l (pos + 96 + 8 * n)) ∧ Chg (· = M) w w' := by
  have hS0 : ((S : Int) == 0) = false := by rw [beq_eq_false_iff_ne]; have := hS.out; omega
  have hS1 : ¬ (S : Int) < 2 := by have := hS.out; omega
  have hS2 : ¬ (S : Int) < 96 := by have := hS.out; omega
  have hS3 : (S : Int) ≤ 65535 := by have := hS.out; omega
  have hRM := hR.out.lt
  have hlen := hR.out.len
  -- the box, the magic, the error
  obtain ⟨w3, e3⟩ : ∃ w3, ((w.alloc (.cells #[secV M] 152)).alloc (.cells #[.int .u16 0] 24)).alloc (.cells #[.nilIface] 70) = w3 := ⟨_, rfl⟩
  have b1 : Below w.heap.size w w3 := by rw [← e3]; exact (((Below.refl _ w).alloc (Nat.le_refl _) _).alloc (by simp) _).alloc (by simp; omega) _
  have z3 : w3.heap.size = w.heap.size + 3 := by rw [← e3]; simp
  have gB : w3.heap[w.heap.size]? = some (.cells #[secV M] 152 (0, 0)) := by
    rw [← e3, heap_alloc_old _ _ (by simp; omega), heap_alloc_old _ _ (by simp), heap_alloc_new]
  have gG : w3.heap[w.heap.size + 1]? = some (.cells #[.int .u16 0] 24 (0, 0)) := by
    rw [← e3, heap_alloc_old _ _ (by simp)]
    have := heap_alloc_new (w.alloc (.cells #[secV M] 152)) (.cells #[.int .u16 0] 24)
    simpa using this
  have gE : w3.heap[w.heap.size + 1 + 1]? = some (.cells #[.nilIface] 70 (0, 0)) := by
    have := heap_alloc_new ((w.alloc (.cells #[secV M] 152)).alloc (.cells #[.int .u16 0] 24)) (.cells #[.nilIface] 70)
    rw [e3] at this
    simpa using this
  have hD0 : ∀ k, D k → k < w.heap.size := fun k hk => (hR.out.d k hk).1
  have st0 : Hid (OptSt w w3 (w.heap.size + 1) w.heap.size (w.heap.size + 1 + 1) M D l [.int .u16 0] 24 pos 0 none) := Lib.hid ⟨[.int .u16 0], rfl, fun _ _ => rfl, .inl rfl, List.all_eq_true.1 rfl, gG, gB, gE, hR.out.later b1, chg_new b1, by omega, by omega, by omega, by omega, by omega, by omega, hRM, hD0⟩
  have CALL0 := Lib.hid (opt16 w w3 _ _ _ M D l _ _ pos 0 none 0 st0 (Lib.hid rfl) (Lib.hid (by have := hpos.out; omega)))
  replace hD0 := Lib.hid hD0
  replace z3 := Lib.hid z3
  clear gB gG gE b1 st0
  go_enter Tryz.func39, Tryz.ntmps39
  go_wp2_with fail
  refine CALL0.out.mono ?_
  rintro e w4 ⟨rfl, st1⟩
  rw [hmag.out] at st1
  have cG : w4.cell? ⟨w.heap.size + 1, 0, none⟩ = some (.int .u16 267) := by
    obtain ⟨cs, hl, -, hlv, -, hV, -⟩ := st1.out
    exact cellL (Lib.hid hV) 0 (hlv.resolve_left (by simp))
  have z4 : w.heap.size + 1 + 1 < w4.heap.size := by
    obtain ⟨cs, hl, -, hlv, -, hV, hB, hE, -⟩ := st1.out
    exact (Array.getElem?_eq_some_iff.1 hE).1
  have hZ : zerosO32 = [.int .u16 0, .int .u8 0, .int .u8 0, .int .u32 0, .int .u32 0, .int .u32 0, .int .u32 0, .int .u32 0, .int .u32 0, .int .u32 0, .int .u32 0, .int .u32 0, .int .u16 0, .int .u16 0, .int .u16 0, .int .u16 0, .int .u16 0, .int .u16 0, .int .u32 0, .int .u32 0, .int .u32 0, .int .u32 0, .int .u16 0, .int .u16 0, .int .u32 0, .int .u32 0, .int .u32 0, .int .u32 0, .int .u32 0, .int .u32 0, .int .u32 0, .int .u32 0, .int .u32 0, .int .u32 0, .int .u32 0, .int .u32 0, .int .u32 0, .int .u32 0, .int .u32 0, .int .u32 0, .int .u32 0, .int .u32 0, .int .u32 0, .int .u32 0, .int .u32 0, .int .u32 0, .int .u32 0, .int .u32 0, .int .u32 0, .int .u32 0, .int .u32 0, .int .u32 0, .int .u32 0, .int .u32 0, .int .u32 0, .int .u32 0, .int .u32 0, .int .u32 0, .int .u32 0, .int .u32 0, .int .u32 0, .int .u32 0] := rfl
  have cG5 : (w4.alloc (.cells #[.int .u16 0, .int .u8 0, .int .u8 0, .int .u32 0, .int .u32 0, .int .u32 0, .int .u32 0, .int .u32 0, .int .u32 0, .int .u32 0, .int .u32 0, .int .u32 0, .int .u16 0, .int .u16 0, .int .u16 0, .int .u16 0, .int .u16 0, .int .u16 0, .int .u32 0, .int .u32 0, .int .u32 0, .int .u32 0, .int .u16 0, .int .u16 0, .int .u32 0, .int .u32 0, .int .u32 0, .int .u32 0, .int .u32 0, .int .u32 0, .int .u32 0, .int .u32 0, .int .u32 0, .int .u32 0, .int .u32 0, .int .u32 0, .int .u32 0, .int .u32 0, .int .u32 0, .int .u32 0, .int .u32 0, .int .u32 0, .int .u32 0, .int .u32 0, .int .u32 0, .int .u32 0, .int .u32 0, .int .u32 0, .int .u32 0, .int .u32 0, .int .u32 0, .int .u32 0, .int .u32 0, .int .u32 0, .int .u32 0, .int .u32 0, .int .u32 0, .int .u32 0, .int .u32 0, .int .u32 0, .int .u32 0, .int .u32 0] 168)).cell? ⟨w.heap.size + 1, 0, none⟩ = some (.int .u16 267) := (World.cell?_alloc_past _ _ _ (by omega)).trans cG
  replace hZ := Lib.hid hZ
  clear CALL0 e3
  obtain ⟨w5, e5⟩ : ∃ w5, w4.alloc (.cells #[.int .u16 267, .int .u8 0, .int .u8 0, .int .u32 0, .int .u32 0, .int .u32 0, .int .u32 0, .int .u32 0, .int .u32 0, .int .u32 0, .int .u32 0, .int .u32 0, .int .u16 0, .int .u16 0, .int .u16 0, .int .u16 0, .int .u16 0, .int .u16 0, .int .u32 0, .int .u32 0, .int .u32 0, .int .u32 0, .int .u16 0, .int .u16 0, .int .u32 0, .int .u32 0, .int .u32 0, .int .u32 0, .int .u32 0, .int .u32 0, .int .u32 0, .int .u32 0, .int .u32 0, .int .u32 0, .int .u32 0, .int .u32 0, .int .u32 0, .int .u32 0, .int .u32 0, .int .u32 0, .int .u32 0, .int .u32 0, .int .u32 0, .int .u32 0, .int .u32 0, .int .u32 0, .int .u32 0, .int .u32 0, .int .u32 0, .int .u32 0, .int .u32 0, .int .u32 0, .int .u32 0, .int .u32 0, .int .u32 0, .int .u32 0, .int .u32 0, .int .u32 0, .int .u32 0, .int .u32 0, .int .u32 0, .int .u32 0] 168) = w5 := ⟨_, rfl⟩
  have st5_1 : Hid (OptSt w w5 w4.heap.size w.heap.size (w.heap.size + 1 + 1) M D l zerosO32 168 (pos + 2) 1 none) := Lib.hid (by
    obtain ⟨cs, hl, -, hlv, -, hV, hB, hE, hR4, hC4, hz⟩ := st1.out
    have b5 : Below w4.heap.size w4 w5 := by rw [← e5]; exact (Below.refl _ _).alloc (Nat.le_refl _) _
    refine ⟨[.int .u16 267, .int .u8 0, .int .u8 0, .int .u32 0, .int .u32 0, .int .u32 0, .int .u32 0, .int .u32 0, .int .u32 0, .int .u32 0, .int .u32 0, .int .u32 0, .int .u16 0, .int .u16 0, .int .u16 0, .int .u16 0, .int .u16 0, .int .u16 0, .int .u32 0, .int .u32 0, .int .u32 0, .int .u32 0, .int .u16 0, .int .u16 0, .int .u32 0, .int .u32 0, .int .u32 0, .int .u32 0, .int .u32 0, .int .u32 0, .int .u32 0, .int .u32 0, .int .u32 0, .int .u32 0, .int .u32 0, .int .u32 0, .int .u32 0, .int .u32 0, .int .u32 0, .int .u32 0, .int .u32 0, .int .u32 0, .int .u32 0, .int .u32 0, .int .u32 0, .int .u32 0, .int .u32 0, .int .u32 0, .int .u32 0, .int .u32 0, .int .u32 0, .int .u32 0, .int .u32 0, .int .u32 0, .int .u32 0, .int .u32 0, .int .u32 0, .int .u32 0, .int .u32 0, .int .u32 0, .int .u32 0, .int .u32 0], rfl, fun j hj => ?_, .inl rfl, List.all_eq_true.1 rfl, by rw [← e5]; exact heap_alloc_new w4 _, (b5.block _ (by omega)).trans hB, (b5.block _ (by omega)).trans hE, hR4.later b5, hC4.trans (chg_new b5), by omega, by omega, by omega, by omega, by omega, by omega, hRM, hD0.out⟩
    cases j with
    | zero => omega
    | succ j => rfl)
  clear st1
  have CALL1 := Lib.hid (opt8 w w5 w4.heap.size w.heap.size (w.heap.size + 1 + 1) M D l zerosO32 168 (pos + 2) 1 _ 0 st5_1 (Lib.hid rfl) (Lib.hid (by have := hpos.out; omega)))
  go_wp2_with fail
  refine CALL1.out.mono ?_
  rintro e w6 ⟨rfl, st6_2'⟩
  have st6_2 : Hid (OptSt w w6 w4.heap.size w.heap.size (w.heap.size + 1 + 1) M D l zerosO32 168 (pos + 3) 2 (some (.int .u8 ((num false ((l.drop (pos + 2)).take 1) : Nat) : Int)))) := st6_2'
  clear CALL1 st5_1 st6_2' e5 cG5 cG
  have CALL2 := Lib.hid (opt8 w w6 w4.heap.size w.heap.size (w.heap.size + 1 + 1) M D l zerosO32 168 (pos + 3) 2 _ 0 st6_2 (Lib.hid rfl) (Lib.hid (by have := hpos.out; omega)))
  go_wp2_with fail
  refine CALL2.out.mono ?_
  rintro e w7 ⟨rfl, st7_3'⟩
  have st7_3 : Hid (OptSt w w7 w4.heap.size w.heap.size (w.heap.size + 1 + 1) M D l zerosO32 168 (pos + 4) 3 (some (.int .u8 ((num false ((l.drop (pos + 3)).take 1) : Nat) : Int)))) := st7_3'
  clear CALL2 st6_2 st7_3'
  have CALL3 := Lib.hid (opt32 w w7 w4.heap.size w.heap.size (w.heap.size + 1 + 1) M D l zerosO32 168 (pos + 4) 3 _ 0 st7_3 (Lib.hid rfl) (Lib.hid (by have := hpos.out; omega)))
  go_wp2_with fail
  refine CALL3.out.mono ?_
  rintro e w8 ⟨rfl, st8_4'⟩
  have st8_4 : Hid (OptSt w w8 w4.heap.size w.heap.size (w.heap.size + 1 + 1) M D l zerosO32 168 (pos + 8) 4 (some (.int .u32 ((num false ((l.drop (pos + 4)).take 4) : Nat) : Int)))) := st8_4'
  clear CALL3 st7_3 st8_4'
  have CALL4 := Lib.hid (opt32 w w8 w4.heap.size w.heap.size (w.heap.size + 1 + 1) M D l zerosO32 168 (pos + 8) 4 _ 0 st8_4 (Lib.hid rfl) (Lib.hid (by have := hpos.out; omega)))
  go_wp2_with fail
  refine CALL4.out.mono ?_
  rintro e w9 ⟨rfl, st9_5'⟩
  have st9_5 : Hid (OptSt w w9 w4.heap.size w.heap.size (w.heap.size + 1 + 1) M D l zerosO32 168 (pos + 12) 5 (some (.int .u32 ((num false ((l.drop (pos + 8)).take 4) : Nat) : Int)))) := st9_5'
  clear CALL4 st8_4 st9_5'
  have CALL5 := Lib.hid (opt32 w w9 w4.heap.size w.heap.size (w.heap.size + 1 + 1) M D l zerosO32 168 (pos + 12) 5 _ 0 st9_5 (Lib.hid rfl) (Lib.hid (by have := hpos.out; omega)))
  go_wp2_with fail
  refine CALL5.out.mono ?_
  rintro e w10 ⟨rfl, st10_6'⟩
  have st10_6 : Hid (OptSt w w10 w4.heap.size w.heap.size (w.heap.size + 1 + 1) M D l zerosO32 168 (pos + 16) 6 (some (.int .u32 ((num false ((l.drop (pos + 12)).take 4) : Nat) : Int)))) := st10_6'
  clear CALL5 st9_5 st10_6'
  have CALL6 := Lib.hid (opt32 w w10 w4.heap.size w.heap.size (w.heap.size + 1 + 1) M D l zerosO32 168 (pos + 16) 6 _ 0 st10_6 (Lib.hid rfl) (Lib.hid (by have := hpos.out; omega)))
  go_wp2_with fail
  refine CALL6.out.mono ?_
  rintro e w11 ⟨rfl, st11_7'⟩
  have st11_7 : Hid (OptSt w w11 w4.heap.size w.heap.size (w.heap.size + 1 + 1) M D l zerosO32 168 (pos + 20) 7 (some (.int .u32 ((num false ((l.drop (pos + 16)).take 4) : Nat) : Int)))) := st11_7'
  clear CALL6 st10_6 st11_7'
  have CALL7 := Lib.hid (opt32 w w11 w4.heap.size w.heap.size (w.heap.size + 1 + 1) M D l zerosO32 168 (pos + 20) 7 _ 0 st11_7 (Lib.hid rfl) (Lib.hid (by have := hpos.out; omega)))
  go_wp2_with fail
  refine CALL7.out.mono ?_
  rintro e w12 ⟨rfl, st12_8'⟩
  have st12_8 : Hid (OptSt w w12 w4.heap.size w.heap.size (w.heap.size + 1 + 1) M D l zerosO32 168 (pos + 24) 8 (some (.int .u32 ((num false ((l.drop (pos + 20)).take 4) : Nat) : Int)))) := st12_8'
  clear CALL7 st11_7 st12_8'
  have CALL8 := Lib.hid (opt32 w w12 w4.heap.size w.heap.size (w.heap.size + 1 + 1) M D l zerosO32 168 (pos + 24) 8 _ 0 st12_8 (Lib.hid rfl) (Lib.hid (by have := hpos.out; omega)))
  go_wp2_with fail
  refine CALL8.out.mono ?_
  rintro e w13 ⟨rfl, st13_9'⟩
  have st13_9 : Hid (OptSt w w13 w4.heap.size w.heap.size (w.heap.size + 1 + 1) M D l zerosO32 168 (pos + 28) 9 (some (.int .u32 ((num false ((l.drop (pos + 24)).take 4) : Nat) : Int)))) := st13_9'
  clear CALL8 st12_8 st13_9'
  have CALL9 := Lib.hid (opt32 w w13 w4.heap.size w.heap.size (w.heap.size + 1 + 1) M D l zerosO32 168 (pos + 28) 9 _ 0 st13_9 (Lib.hid rfl) (Lib.hid (by have := hpos.out; omega)))
  go_wp2_with fail
  refine CALL9.out.mono ?_
  rintro e w14 ⟨rfl, st14_10'⟩
  have st14_10 : Hid (OptSt w w14 w4.heap.size w.heap.size (w.heap.size + 1 + 1) M D l zerosO32 168 (pos + 32) 10 (some (.int .u32 ((num false ((l.drop (pos + 28)).take 4) : Nat) : Int)))) := st14_10'
  clear CALL9 st13_9 st14_10'
  have CALL10 := Lib.hid (opt32 w w14 w4.heap.size w.heap.size (w.heap.size + 1 + 1) M D l zerosO32 168 (pos + 32) 10 _ 0 st14_10 (Lib.hid rfl) (Lib.hid (by have := hpos.out; omega)))
  go_wp2_with fail
  refine CALL10.out.mono ?_
  rintro e w15 ⟨rfl, st15_11'⟩
  have st15_11 : Hid (OptSt w w15 w4.heap.size w.heap.size (w.heap.size + 1 + 1) M D l zerosO32 168 (pos + 36) 11 (some (.int .u32 ((num false ((l.drop (pos + 32)).take 4) : Nat) : Int)))) := st15_11'
  clear CALL10 st14_10 st15_11'
  have CALL11 := Lib.hid (opt32 w w15 w4.heap.size w.heap.size (w.heap.size + 1 + 1) M D l zerosO32 168 (pos + 36) 11 _ 0 st15_11 (Lib.hid rfl) (Lib.hid (by have := hpos.out; omega)))
  go_wp2_with fail
  refine CALL11.out.mono ?_
  rintro e w16 ⟨rfl, st16_12'⟩
  have st16_12 : Hid (OptSt w w16 w4.heap.size w.heap.size (w.heap.size + 1 + 1) M D l zerosO32 168 (pos + 40) 12 (some (.int .u32 ((num false ((l.drop (pos + 36)).take 4) : Nat) : Int)))) := st16_12'
  clear CALL11 st15_11 st16_12'
  have CALL12 := Lib.hid (opt16 w w16 w4.heap.size w.heap.size (w.heap.size + 1 + 1) M D l zerosO32 168 (pos + 40) 12 _ 0 st16_12 (Lib.hid rfl) (Lib.hid (by have := hpos.out; omega)))
  go_wp2_with fail
  refine CALL12.out.mono ?_
  rintro e w17 ⟨rfl, st17_13'⟩
  have st17_13 : Hid (OptSt w w17 w4.heap.size w.heap.size (w.heap.size + 1 + 1) M D l zerosO32 168 (pos + 42) 13 (some (.int .u16 ((num false ((l.drop (pos + 40)).take 2) : Nat) : Int)))) := st17_13'
  clear CALL12 st16_12 st17_13'
  have CALL13 := Lib.hid (opt16 w w17 w4.heap.size w.heap.size (w.heap.size + 1 + 1) M D l zerosO32 168 (pos + 42) 13 _ 0 st17_13 (Lib.hid rfl) (Lib.hid (by have := hpos.out; omega)))
  go_wp2_with fail
  refine CALL13.out.mono ?_
  rintro e w18 ⟨rfl, st18_14'⟩
  have st18_14 : Hid (OptSt w w18 w4.heap.size w.heap.size (w.heap.size + 1 + 1) M D l zerosO32 168 (pos + 44) 14 (some (.int .u16 ((num false ((l.drop (pos + 42)).take 2) : Nat) : Int)))) := st18_14'
  clear CALL13 st17_13 st18_14'
  have CALL14 := Lib.hid (opt16 w w18 w4.heap.size w.heap.size (w.heap.size + 1 + 1) M D l zerosO32 168 (pos + 44) 14 _ 0 st18_14 (Lib.hid rfl) (Lib.hid (by have := hpos.out; omega)))
  go_wp2_with fail
  refine CALL14.out.mono ?_
  rintro e w19 ⟨rfl, st19_15'⟩
  have st19_15 : Hid (OptSt w w19 w4.heap.size w.heap.size (w.heap.size + 1 + 1) M D l zerosO32 168 (pos + 46) 15 (some (.int .u16 ((num false ((l.drop (pos + 44)).take 2) : Nat) : Int)))) := st19_15'
  clear CALL14 st18_14 st19_15'
  have CALL15 := Lib.hid (opt16 w w19 w4.heap.size w.heap.size (w.heap.size + 1 + 1) M D l zerosO32 168 (pos + 46) 15 _ 0 st19_15 (Lib.hid rfl) (Lib.hid (by have := hpos.out; omega)))
  go_wp2_with fail
  refine CALL15.out.mono ?_
  rintro e w20 ⟨rfl, st20_16'⟩
  have st20_16 : Hid (OptSt w w20 w4.heap.size w.heap.size (w.heap.size + 1 + 1) M D l zerosO32 168 (pos + 48) 16 (some (.int .u16 ((num false ((l.drop (pos + 46)).take 2) : Nat) : Int)))) := st20_16'
  clear CALL15 st19_15 st20_16'
  have CALL16 := Lib.hid (opt16 w w20 w4.heap.size w.heap.size (w.heap.size + 1 + 1) M D l zerosO32 168 (pos + 48) 16 _ 0 st20_16 (Lib.hid rfl) (Lib.hid (by have := hpos.out; omega)))
  go_wp2_with fail
  refine CALL16.out.mono ?_
  rintro e w21 ⟨rfl, st21_17'⟩
  have st21_17 : Hid (OptSt w w21 w4.heap.size w.heap.size (w.heap.size + 1 + 1) M D l zerosO32 168 (pos + 50) 17 (some (.int .u16 ((num false ((l.drop (pos + 48)).take 2) : Nat) : Int)))) := st21_17'
  clear CALL16 st20_16 st21_17'
  have CALL17 := Lib.hid (opt16 w w21 w4.heap.size w.heap.size (w.heap.size + 1 + 1) M D l zerosO32 168 (pos + 50) 17 _ 0 st21_17 (Lib.hid rfl) (Lib.hid (by have := hpos.out; omega)))
  go_wp2_with fail
  refine CALL17.out.mono ?_
  rintro e w22 ⟨rfl, st22_18'⟩
  have st22_18 : Hid (OptSt w w22 w4.heap.size w.heap.size (w.heap.size + 1 + 1) M D l zerosO32 168 (pos + 52) 18 (some (.int .u16 ((num false ((l.drop (pos + 50)).take 2) : Nat) : Int)))) := st22_18'
  clear CALL17 st21_17 st22_18'
  have CALL18 := Lib.hid (opt32 w w22 w4.heap.size w.heap.size (w.heap.size + 1 + 1) M D l zerosO32 168 (pos + 52) 18 _ 0 st22_18 (Lib.hid rfl) (Lib.hid (by have := hpos.out; omega)))
  go_wp2_with fail
  refine CALL18.out.mono ?_
  rintro e w23 ⟨rfl, st23_19'⟩
  have st23_19 : Hid (OptSt w w23 w4.heap.size w.heap.size (w.heap.size + 1 + 1) M D l zerosO32 168 (pos + 56) 19 (some (.int .u32 ((num false ((l.drop (pos + 52)).take 4) : Nat) : Int)))) := st23_19'
  clear CALL18 st22_18 st23_19'
  have CALL19 := Lib.hid (opt32 w w23 w4.heap.size w.heap.size (w.heap.size + 1 + 1) M D l zerosO32 168 (pos + 56) 19 _ 0 st23_19 (Lib.hid rfl) (Lib.hid (by have := hpos.out; omega)))
  go_wp2_with fail
  refine CALL19.out.mono ?_
  rintro e w24 ⟨rfl, st24_20'⟩
  have st24_20 : Hid (OptSt w w24 w4.heap.size w.heap.size (w.heap.size + 1 + 1) M D l zerosO32 168 (pos + 60) 20 (some (.int .u32 ((num false ((l.drop (pos + 56)).take 4) : Nat) : Int)))) := st24_20'
  clear CALL19 st23_19 st24_20'
  have CALL20 := Lib.hid (opt32 w w24 w4.heap.size w.heap.size (w.heap.size + 1 + 1) M D l zerosO32 168 (pos + 60) 20 _ 0 st24_20 (Lib.hid rfl) (Lib.hid (by have := hpos.out; omega)))
  go_wp2_with fail
  refine CALL20.out.mono ?_
  rintro e w25 ⟨rfl, st25_21'⟩
  have st25_21 : Hid (OptSt w w25 w4.heap.size w.heap.size (w.heap.size + 1 + 1) M D l zerosO32 168 (pos + 64) 21 (some (.int .u32 ((num false ((l.drop (pos + 60)).take 4) : Nat) : Int)))) := st25_21'
  clear CALL20 st24_20 st25_21'
  have CALL21 := Lib.hid (opt32 w w25 w4.heap.size w.heap.size (w.heap.size + 1 + 1) M D l zerosO32 168 (pos + 64) 21 _ 0 st25_21 (Lib.hid rfl) (Lib.hid (by have := hpos.out; omega)))
  go_wp2_with fail
  refine CALL21.out.mono ?_
  rintro e w26 ⟨rfl, st26_22'⟩
  have st26_22 : Hid (OptSt w w26 w4.heap.size w.heap.size (w.heap.size + 1 + 1) M D l zerosO32 168 (pos + 68) 22 (some (.int .u32 ((num false ((l.drop (pos + 64)).take 4) : Nat) : Int)))) := st26_22'
  clear CALL21 st25_21 st26_22'
  have CALL22 := Lib.hid (opt16 w w26 w4.heap.size w.heap.size (w.heap.size + 1 + 1) M D l zerosO32 168 (pos + 68) 22 _ 0 st26_22 (Lib.hid rfl) (Lib.hid (by have := hpos.out; omega)))
  go_wp2_with fail
  refine CALL22.out.mono ?_
  rintro e w27 ⟨rfl, st27_23'⟩
  have st27_23 : Hid (OptSt w w27 w4.heap.size w.heap.size (w.heap.size + 1 + 1) M D l zerosO32 168 (pos + 70) 23 (some (.int .u16 ((num false ((l.drop (pos + 68)).take 2) : Nat) : Int)))) := st27_23'
  clear CALL22 st26_22 st27_23'
  have CALL23 := Lib.hid (opt16 w w27 w4.heap.size w.heap.size (w.heap.size + 1 + 1) M D l zerosO32 168 (pos + 70) 23 _ 0 st27_23 (Lib.hid rfl) (Lib.hid (by have := hpos.out; omega)))
  go_wp2_with fail
  refine CALL23.out.mono ?_
  rintro e w28 ⟨rfl, st28_24'⟩
  have st28_24 : Hid (OptSt w w28 w4.heap.size w.heap.size (w.heap.size + 1 + 1) M D l zerosO32 168 (pos + 72) 24 (some (.int .u16 ((num false ((l.drop (pos + 70)).take 2) : Nat) : Int)))) := st28_24'
  clear CALL23 st27_23 st28_24'
  have CALL24 := Lib.hid (opt32 w w28 w4.heap.size w.heap.size (w.heap.size + 1 + 1) M D l zerosO32 168 (pos + 72) 24 _ 0 st28_24 (Lib.hid rfl) (Lib.hid (by have := hpos.out; omega)))
  go_wp2_with fail
  refine CALL24.out.mono ?_
  rintro e w29 ⟨rfl, st29_25'⟩
  have st29_25 : Hid (OptSt w w29 w4.heap.size w.heap.size (w.heap.size + 1 + 1) M D l zerosO32 168 (pos + 76) 25 (some (.int .u32 ((num false ((l.drop (pos + 72)).take 4) : Nat) : Int)))) := st29_25'
  clear CALL24 st28_24 st29_25'
  have CALL25 := Lib.hid (opt32 w w29 w4.heap.size w.heap.size (w.heap.size + 1 + 1) M D l zerosO32 168 (pos + 76) 25 _ 0 st29_25 (Lib.hid rfl) (Lib.hid (by have := hpos.out; omega)))
  go_wp2_with fail
  refine CALL25.out.mono ?_
  rintro e w30 ⟨rfl, st30_26'⟩
  have st30_26 : Hid (OptSt w w30 w4.heap.size w.heap.size (w.heap.size + 1 + 1) M D l zerosO32 168 (pos + 80) 26 (some (.int .u32 ((num false ((l.drop (pos + 76)).take 4) : Nat) : Int)))) := st30_26'
  clear CALL25 st29_25 st30_26'
  have CALL26 := Lib.hid (opt32 w w30 w4.heap.size w.heap.size (w.heap.size + 1 + 1) M D l zerosO32 168 (pos + 80) 26 _ 0 st30_26 (Lib.hid rfl) (Lib.hid (by have := hpos.out; omega)))
  go_wp2_with fail
  refine CALL26.out.mono ?_
  rintro e w31 ⟨rfl, st31_27'⟩
  have st31_27 : Hid (OptSt w w31 w4.heap.size w.heap.size (w.heap.size + 1 + 1) M D l zerosO32 168 (pos + 84) 27 (some (.int .u32 ((num false ((l.drop (pos + 80)).take 4) : Nat) : Int)))) := st31_27'
  clear CALL26 st30_26 st31_27'
  have CALL27 := Lib.hid (opt32 w w31 w4.heap.size w.heap.size (w.heap.size + 1 + 1) M D l zerosO32 168 (pos + 84) 27 _ 0 st31_27 (Lib.hid rfl) (Lib.hid (by have := hpos.out; omega)))
  go_wp2_with fail
  refine CALL27.out.mono ?_
  rintro e w32 ⟨rfl, st32_28'⟩
  have st32_28 : Hid (OptSt w w32 w4.heap.size w.heap.size (w.heap.size + 1 + 1) M D l zerosO32 168 (pos + 88) 28 (some (.int .u32 ((num false ((l.drop (pos + 84)).take 4) : Nat) : Int)))) := st32_28'
  clear CALL27 st31_27 st32_28'
  have CALL28 := Lib.hid (opt32 w w32 w4.heap.size w.heap.size (w.heap.size + 1 + 1) M D l zerosO32 168 (pos + 88) 28 _ 0 st32_28 (Lib.hid rfl) (Lib.hid (by have := hpos.out; omega)))
  go_wp2_with fail
  refine CALL28.out.mono ?_
  rintro e w33 ⟨rfl, st33_29'⟩
  have st33_29 : Hid (OptSt w w33 w4.heap.size w.heap.size (w.heap.size + 1 + 1) M D l zerosO32 168 (pos + 92) 29 (some (.int .u32 ((num false ((l.drop (pos + 88)).take 4) : Nat) : Int)))) := st33_29'
  clear CALL28 st32_28 st33_29'
  have CALL29 := Lib.hid (opt32 w w33 w4.heap.size w.heap.size (w.heap.size + 1 + 1) M D l zerosO32 168 (pos + 92) 29 _ 0 st33_29 (Lib.hid rfl) (Lib.hid (by have := hpos.out; omega)))
  go_wp2_with fail
  refine CALL29.out.mono ?_
  rintro e w34 ⟨rfl, st34_30'⟩
  have st34_30 : Hid (OptSt w w34 w4.heap.size w.heap.size (w.heap.size + 1 + 1) M D l zerosO32 168 (pos + 96) 30 (some (.int .u32 ((num false ((l.drop (pos + 92)).take 4) : Nat) : Int)))) := st34_30'
  clear CALL29 st33_29 st34_30'
  -- the directories
  have hb30 : w34.cell? ⟨w.heap.size, 0, none⟩ = some (secV M) ∧ w34.cell? ⟨w4.heap.size, 29, none⟩ = some (.int .u32 (n : Int)) := by
    obtain ⟨cs, hl, -, hlv, -, hV, hB, hE, -⟩ := st34_30.out
    refine ⟨World.cell?_of_row (l := [secV M]) hB 0 _ rfl, cellL (Lib.hid hV) 29 ?_⟩
    have h := hlv.resolve_left (by simp)
    rw [hcnt.out] at h
    exact h
  obtain ⟨hbB, hbV⟩ := hb30
  have eS : ((8 * n : Nat) : Int) = (S : Int) - 96 := by have := hS.out; omega
  have RD : Hid (Rdr w34 (secV M) M D l (pos + 96)) := Lib.hid (by
    obtain ⟨cs, hl, -, hlv, -, hV, hB, hE, hRl, -⟩ := st34_30.out
    exact hRl)
  have CALLd := Lib.hid (readDirs_any M n (pos + 96) D l w34 hn RD hpos)
  rw [eS] at CALLd
  replace eS := Lib.hid eS
  clear RD
  go_wp2_with fail
  refine CALLd.out.mono ?_
  rintro e w35 ⟨⟨G, rfl, hGz, hG⟩, Rd, Cd⟩
  obtain ⟨cs, hl, -, -, hone, hV, -, -, -, hCl, hzz⟩ := st34_30.out
  have hVM : w4.heap.size ≠ M := by omega
  have hVd := Cd.row hV hVM
  have hdl := dirRow_len ((l.drop (pos + 96)).take (8 * n)) n
  have hinfo : (Tryz.prog.info? 165).map (·.size) = some 2 := by kernel_rfl
  have hcp := run_copy_rowN (P := Tryz.prog) w35 170 170 3 165 w4.heap.size 30 16 16 ⟨G, 0, none⟩ n n 2 n cs.toArray 168 (dirRow ((l.drop (pos + 96)).take (8 * n)) n) Tryz.underlying170 hinfo hVd (Nat.min_eq_left hn).symm hdl
    (fun j v hj => by rw [add_off, Nat.zero_add]; exact World.cell?_of_row hG.out j v hj) (by rw [List.size_toArray, hl, hdl]; show 30 + n * 2 ≤ 62; omega) (dirRow_one _ n)
  obtain ⟨wE, eE⟩ : ∃ wE, w35.setRow w4.heap.size (cs.toArray.toList.take 30 ++ dirRow ((l.drop (pos + 96)).take (8 * n)) n ++ cs.toArray.toList.drop (30 + (dirRow ((l.drop (pos + 96)).take (8 * n)) n).length)).toArray = wE := ⟨_, rfl⟩
  rw [eE] at hcp
  have CE : Chg (· = w4.heap.size) w35 wE := by rw [← eE]; exact ⟨rfl, rfl, rfl, by simp, fun k hk hk' => setRow_other _ _ k _ hk'⟩
  have RE := Lib.hid (Rd.out.chg CE (fun e => hVM e.symm) (fun k hk e => by have := hD0.out k hk; omega))
  have CF := Lib.hid ((hCl.trans (Cd.mono (fun k _ e => .inl e))).trans (CE.mono (fun k _ e => .inr (by omega))))
  have hcp2 : (Builtin.copy_ #[170, 170] 3 #[.slice (some ⟨w4.heap.size, 30, none⟩) 16 16, .slice (some ⟨G, 0, none⟩) n n]).run Tryz.prog w35 = .ok (.int .i64 (n : Int)) wE := hcp
  clear hcp eE CE hVd hV hone hCl hzz hl hdl hinfo Rd Cd hG st34_30 CALLd hbB hbV eS
  go_wp2
  go_ret2
  exact ⟨⟨_, _, rfl⟩, RE, CF.out⟩
end Go.Proofs.YtbpebngjpecncaaGreatDoor
