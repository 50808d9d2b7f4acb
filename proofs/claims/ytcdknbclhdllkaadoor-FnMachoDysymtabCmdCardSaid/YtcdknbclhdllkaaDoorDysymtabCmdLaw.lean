/-
  impl.MachoDysymtabCmd: its contracts; the walk of the law FnMachoDysymtabCmd.
-/
import Derived.Test.YtcdknbclhdllkaaDoorDysymtabCmd
import Derived.Test.YtcdknbclhdllkaaDoorFours
namespace Go.Proofs.YtcdknbclhdllkaaDoor
set_option linter.unusedVariables false
set_option linter.unusedSimpArgs false
open Go Go.RowKit

/-- The numbers of DysymtabCmd. -/
def nDysymtabCmd (big : Bool) (s : List UInt8) : List Nat := [num big (s.take 4), num big ((s.drop 4).take 4), num big ((s.drop 8).take 4), num big ((s.drop 12).take 4), num big ((s.drop 16).take 4), num big ((s.drop 20).take 4), num big ((s.drop 24).take 4), num big ((s.drop 28).take 4), num big ((s.drop 32).take 4), num big ((s.drop 36).take 4), num big ((s.drop 40).take 4), num big ((s.drop 44).take 4), num big ((s.drop 48).take 4), num big ((s.drop 52).take 4), num big ((s.drop 56).take 4), num big ((s.drop 60).take 4), num big ((s.drop 64).take 4), num big ((s.drop 68).take 4), num big ((s.drop 72).take 4), num big ((s.drop 76).take 4)]
theorem nDysymtabCmd_eq (big : Bool) (l : List UInt8) : nDysymtabCmd big (l.take 80) = (List.range 20).map fun i => num big ((l.drop (4 * i)).take 4) := by
  simp [nDysymtabCmd, List.range_succ, List.drop_take, List.take_take]

set_option maxRecDepth 100000 in
set_option maxHeartbeats 300000 in
theorem implDysymtabCmd_all (big : Bool) (A : Option Addr) (l : List UInt8) (n c : Nat) (hN : Hid (n = l.length)) (hb : n ≤ 2147483647) (hZ : 80 ≤ n) (w : World) (hA : RB w A l) :
    Calls Tryd.prog 21 #[.bool big, .slice A n c] w fun e w' => (∃ v, e = .returned (.tuple #[.slice v 20 20, .bool true]) ∧ Hid (RC w' v 1 20 ((nDysymtabCmd big (l.take 80)).map uv))) ∧ Below w.heap.size w w' := by
  obtain ⟨s, hS⟩ : ∃ s, l.take 80 = s := ⟨_, rfl⟩
  rw [hS]
  have HS := Lib.hid hS
  clear hS
  go_enter Tryd.func21, Tryd.ntmps21
  go_wp2_with fail
  refine (order_any big w).mono ?_
  rintro e w' ⟨rfl, rfl⟩
  go_wp2_with fail
  refine (copied_any A l n c hN.out hb w hA).mono ?_
  rintro e w1 ⟨⟨v, rfl, hown⟩, hb1⟩
  obtain ⟨-, A1, c1, rfl, R1, hc1, hcm, hA1, hA2⟩ := RB.of_owns hown
  have R1 := Lib.hid R1
  clear hown hA1 hA2 hcm
  go_wp2_with fail
  refine (zzDysymtabCmd_all A1 l n c1 big w1 hN hb hZ hc1 R1 (R1.out.ltA (by have := hN.out; omega))).mono ?_
  rintro e w2 ⟨rfl, hb2⟩
  rw [HS.out]
  have hbw : Hid (Below w.heap.size w w2) := Lib.hid (hb1.trans (hb2.mono hb1.size))
  have g2 := Lib.hid (heap_alloc_new w2 (.cells #[.int .u32 0, .int .u32 0, .int .u32 0, .int .u32 0, .int .u32 0, .int .u32 0, .int .u32 0, .int .u32 0, .int .u32 0, .int .u32 0, .int .u32 0, .int .u32 0, .int .u32 0, .int .u32 0, .int .u32 0, .int .u32 0, .int .u32 0, .int .u32 0, .int .u32 0, .int .u32 0] 71))

  have hrow := (congrArg (fun x : World => x.heap[w2.heap.size]?) (World.setRow_alloc_new w2 #[.int .u32 0, .int .u32 0, .int .u32 0, .int .u32 0, .int .u32 0, .int .u32 0, .int .u32 0, .int .u32 0, .int .u32 0, .int .u32 0, .int .u32 0, .int .u32 0, .int .u32 0, .int .u32 0, .int .u32 0, .int .u32 0, .int .u32 0, .int .u32 0, .int .u32 0, .int .u32 0] (fDysymtabCmd big s).toArray 71)).trans (heap_alloc_new w2 _)
  have c0 := World.cell?_of_row hrow 0 (.int .u32 ((num big (s.take 4) : Nat) : Int)) rfl
  have c1 := World.cell?_of_row hrow 1 (.int .u32 ((num big ((s.drop 4).take 4) : Nat) : Int)) rfl
  have c2 := World.cell?_of_row hrow 2 (.int .u32 ((num big ((s.drop 8).take 4) : Nat) : Int)) rfl
  have c3 := World.cell?_of_row hrow 3 (.int .u32 ((num big ((s.drop 12).take 4) : Nat) : Int)) rfl
  have c4 := World.cell?_of_row hrow 4 (.int .u32 ((num big ((s.drop 16).take 4) : Nat) : Int)) rfl
  have c5 := World.cell?_of_row hrow 5 (.int .u32 ((num big ((s.drop 20).take 4) : Nat) : Int)) rfl
  have c6 := World.cell?_of_row hrow 6 (.int .u32 ((num big ((s.drop 24).take 4) : Nat) : Int)) rfl
  have c7 := World.cell?_of_row hrow 7 (.int .u32 ((num big ((s.drop 28).take 4) : Nat) : Int)) rfl
  have c8 := World.cell?_of_row hrow 8 (.int .u32 ((num big ((s.drop 32).take 4) : Nat) : Int)) rfl
  have c9 := World.cell?_of_row hrow 9 (.int .u32 ((num big ((s.drop 36).take 4) : Nat) : Int)) rfl
  have c10 := World.cell?_of_row hrow 10 (.int .u32 ((num big ((s.drop 40).take 4) : Nat) : Int)) rfl
  have c11 := World.cell?_of_row hrow 11 (.int .u32 ((num big ((s.drop 44).take 4) : Nat) : Int)) rfl
  have c12 := World.cell?_of_row hrow 12 (.int .u32 ((num big ((s.drop 48).take 4) : Nat) : Int)) rfl
  have c13 := World.cell?_of_row hrow 13 (.int .u32 ((num big ((s.drop 52).take 4) : Nat) : Int)) rfl
  have c14 := World.cell?_of_row hrow 14 (.int .u32 ((num big ((s.drop 56).take 4) : Nat) : Int)) rfl
  have c15 := World.cell?_of_row hrow 15 (.int .u32 ((num big ((s.drop 60).take 4) : Nat) : Int)) rfl
  have c16 := World.cell?_of_row hrow 16 (.int .u32 ((num big ((s.drop 64).take 4) : Nat) : Int)) rfl
  have c17 := World.cell?_of_row hrow 17 (.int .u32 ((num big ((s.drop 68).take 4) : Nat) : Int)) rfl
  have c18 := World.cell?_of_row hrow 18 (.int .u32 ((num big ((s.drop 72).take 4) : Nat) : Int)) rfl
  have c19 := World.cell?_of_row hrow 19 (.int .u32 ((num big ((s.drop 76).take 4) : Nat) : Int)) rfl
  clear hrow
  have W0 := wrap_num4 big s
  have W1 := wrap_num4 big (s.drop 4)
  have W2 := wrap_num4 big (s.drop 8)
  have W3 := wrap_num4 big (s.drop 12)
  have W4 := wrap_num4 big (s.drop 16)
  have W5 := wrap_num4 big (s.drop 20)
  have W6 := wrap_num4 big (s.drop 24)
  have W7 := wrap_num4 big (s.drop 28)
  have W8 := wrap_num4 big (s.drop 32)
  have W9 := wrap_num4 big (s.drop 36)
  have W10 := wrap_num4 big (s.drop 40)
  have W11 := wrap_num4 big (s.drop 44)
  have W12 := wrap_num4 big (s.drop 48)
  have W13 := wrap_num4 big (s.drop 52)
  have W14 := wrap_num4 big (s.drop 56)
  have W15 := wrap_num4 big (s.drop 60)
  have W16 := wrap_num4 big (s.drop 64)
  have W17 := wrap_num4 big (s.drop 68)
  have W18 := wrap_num4 big (s.drop 72)
  have W19 := wrap_num4 big (s.drop 76)
  go_wp2_with (refine wpList_store_row rfl 71 _ _ rfl w2.heap.size 71 #[.int .u32 0, .int .u32 0, .int .u32 0, .int .u32 0, .int .u32 0, .int .u32 0, .int .u32 0, .int .u32 0, .int .u32 0, .int .u32 0, .int .u32 0, .int .u32 0, .int .u32 0, .int .u32 0, .int .u32 0, .int .u32 0, .int .u32 0, .int .u32 0, .int .u32 0, .int .u32 0] (fDysymtabCmd big s).toArray rfl rfl g2.out rfl (by kernel_rfl) (oneDysymtabCmd _ _) ?_)
  go_ret2
  exact ⟨⟨_, rfl, Lib.hid (rc_new (vs := (nDysymtabCmd big s).map uv) (by simp) (by simp [nDysymtabCmd]))⟩, (below_setRow (hbw.out.alloc hbw.out.size _) hbw.out.size _).alloc (by have := hbw.out.size; simp; omega) _⟩

set_option maxRecDepth 100000 in
set_option maxHeartbeats 1000000 in
theorem implDysymtabCmd_short (big : Bool) (A : Option Addr) (l : List UInt8) (n c : Nat) (hN : Hid (n = l.length)) (hb : n ≤ 2147483647) (hZ : n < 80) (w : World) (hA : RB w A l) (TE TU : TypeId) (vE vU : Value) (hErr : Hid (ErrsAt w TE TU vE vU)) (h3 : 3 ≤ w.heap.size) :
    Calls Tryd.prog 21 #[.bool big, .slice A n c] w fun e w' => e = .returned (.tuple #[.slice none 0 0, .bool false]) ∧ Below w.heap.size w w' := by
  go_enter Tryd.func21, Tryd.ntmps21
  go_wp2_with fail
  refine (order_any big w).mono ?_
  rintro e w' ⟨rfl, rfl⟩
  go_wp2_with fail
  refine (copied_any A l n c hN.out hb w hA).mono ?_
  rintro e w1 ⟨⟨v, rfl, hown⟩, hb1⟩
  obtain ⟨-, A1, c1, rfl, R1, hc1, hcm, hA1, hA2⟩ := RB.of_owns hown
  have R1 := Lib.hid R1
  have hlt := fun (a : Addr) (ha : A1 = some a) => owned_lt hown (by rw [ha]) 
  have hE1 := Lib.hid (hErr.out.chg (Chg.of_below (S := fun k => w.heap.size ≤ k) hb1 (fun k _ h => h)) (by omega) (by omega))
  have hsz := hb1.size
  clear hown hA1 hA2 hcm
  go_wp2_with fail
  refine (zzDysymtabCmd_short A1 l n c1 big w1 TE TU vE vU hE1 (by omega) hN hb hZ hc1 R1 hlt).mono ?_
  rintro e w2 ⟨⟨TX, vX, rfl⟩, hb2⟩
  have hbw : Hid (Below w.heap.size w w2) := Lib.hid (hb1.trans (hb2.mono hb1.size))
  have g2 := Lib.hid (heap_alloc_new w2 (.cells #[.int .u32 0, .int .u32 0, .int .u32 0, .int .u32 0, .int .u32 0, .int .u32 0, .int .u32 0, .int .u32 0, .int .u32 0, .int .u32 0, .int .u32 0, .int .u32 0, .int .u32 0, .int .u32 0, .int .u32 0, .int .u32 0, .int .u32 0, .int .u32 0, .int .u32 0, .int .u32 0] 71))
  go_wp2_with (refine wpList_store_self rfl 71 _ _ rfl w2.heap.size 71 #[.int .u32 0, .int .u32 0, .int .u32 0, .int .u32 0, .int .u32 0, .int .u32 0, .int .u32 0, .int .u32 0, .int .u32 0, .int .u32 0, .int .u32 0, .int .u32 0, .int .u32 0, .int .u32 0, .int .u32 0, .int .u32 0, .int .u32 0, .int .u32 0, .int .u32 0, .int .u32 0] rfl rfl g2.out (by kernel_rfl) (List.all_eq_true.1 rfl) ?_)
  go_ret2
  exact ⟨rfl, hbw.out.alloc hbw.out.size _⟩

set_option maxRecDepth 100000 in
set_option maxHeartbeats 1000000 in
theorem law_FnMachoDysymtabCmd (a0 : Bool) (a1 : Option Addr) (len1 cap1 : Nat) (z1 : List Int) (w : World) (w1 : IsRow .u8 w a1 len1 cap1 z1) (TE TU : TypeId) (vE vU : Value) (hErr : ErrsAt w TE TU vE vU) (h3 : 3 ≤ w.heap.size) :
    Calls Tryd.prog 8 #[.bool a0, .slice a1 len1 cap1] w fun e w' => e = .returned (.bool true) ∧ Below w.heap.size w w' := by
  obtain ⟨l, hl, hr, hc, hm⟩ := w1.bytes
  have hN := Lib.hid hl
  have hE := Lib.hid hErr
  clear hl w1 hm hErr
  have hff := fieldsOf_fours a0 20 l
  by_cases hb : len1 ≤ 1048576
  · by_cases hZ : 80 ≤ len1
    · rw [if_neg (by have := hN.out; omega), ← nDysymtabCmd_eq] at hff
      have hff := Lib.hid hff
      go_enter Tryd.func8, Tryd.ntmps8
      go_wp2_with fail
      refine (implDysymtabCmd_all a0 a1 l len1 cap1 hN (by omega) hZ w hr).mono ?_
      rintro e w1 ⟨⟨v, rfl, R1⟩, b1⟩
      go_wp2_with fail
      refine (bigFours_any 20 (by omega) w1).mono ?_
      rintro e w2 ⟨⟨v2, rfl, own2⟩, b2⟩
      obtain ⟨B, d, rfl, R2, -, -⟩ := RC.of_owns own2
      have R1' := Lib.hid (R1.out.later b2)
      have b12 := Lib.hid (b1.trans (b2.mono b1.size))
      have A2 := Lib.hid (hr.later b12.out)
      clear R1 own2 b1 b2
      go_wp2_with fail
      refine (fields_any a0 a1 B l (List.replicate 20 4) len1 cap1 20 d hN hc (by omega) (Lib.hid (by simp)) (by omega) (Lib.hid (fun x hx => by rw [List.eq_of_mem_replicate hx]; omega)) w2 A2 (Lib.hid R2)).mono ?_
      rintro e w3 ⟨h | ⟨r, v3, e3, rfl, own3⟩, b3⟩
      · rw [hff.out] at h; cases h.1
      obtain rfl := Option.some.inj (hff.out.symm.trans e3)
      obtain ⟨C, d3, rfl, R3, -, -⟩ := RC.of_owns own3
      have R1'' := R1'.out.later b3
      have b13 := Lib.hid (b12.out.trans (b3.mono b12.out.size))
      have eK : (nDysymtabCmd a0 (l.take 80)).length = 20 := rfl
      rw [eK] at R3 ⊢
      clear own3 e3 b3 R1' b12 A2 R2 hff
      have R1'' := Lib.hid R1''
      have R3 := Lib.hid R3
      go_wp2_with fail
      refine (same_yes v C 20 20 d3 (nDysymtabCmd a0 (l.take 80)) w3 (by omega) R1''.out R3.out).mono ?_
      rintro e w4 ⟨rfl, q, rfl⟩
      go_wp2
      go_ret
      exact ⟨rfl, below_drewN b13.out q⟩
    · rw [if_pos (by have := hN.out; omega)] at hff
      have hff := Lib.hid hff
      go_enter Tryd.func8, Tryd.ntmps8
      go_wp2_with fail
      refine (implDysymtabCmd_short a0 a1 l len1 cap1 hN (by omega) (by omega) w hr TE TU vE vU hE h3).mono ?_
      rintro e w1 ⟨rfl, b1⟩
      go_wp2_with fail
      refine (bigFours_any 20 (by omega) w1).mono ?_
      rintro e w2 ⟨⟨v2, rfl, own2⟩, b2⟩
      obtain ⟨B, d, rfl, R2, -, -⟩ := RC.of_owns own2
      have b12 := Lib.hid (b1.trans (b2.mono b1.size))
      have A2 := Lib.hid (hr.later b12.out)
      clear own2 b1 b2
      go_wp2_with fail
      refine (fields_any a0 a1 B l (List.replicate 20 4) len1 cap1 20 d hN hc (by omega) (Lib.hid (by simp)) (by omega) (Lib.hid (fun x hx => by rw [List.eq_of_mem_replicate hx]; omega)) w2 A2 (Lib.hid R2)).mono ?_
      rintro e w3 ⟨⟨-, rfl⟩ | ⟨r, v3, e3, -, -⟩, b3⟩
      · have b13 := Lib.hid (b12.out.trans (b3.mono b12.out.size))
        clear b3 b12 A2 R2 hff
        go_wp2_with fail
        refine (same_yes none none 0 0 0 [] w3 (by omega) ⟨rfl, fun h => absurd h (Nat.lt_irrefl 0)⟩ ⟨rfl, fun h => absurd h (Nat.lt_irrefl 0)⟩).mono ?_
        rintro e w4 ⟨rfl, q, rfl⟩
        go_wp2
        go_ret
        exact ⟨rfl, below_drewN b13.out q⟩
      · rw [hff.out] at e3; cases e3
  · clear hff
    have hb1 : Hid (1048576 < len1) := Lib.hid (by omega)
    by_cases hb2 : len1 ≤ 2147483647
    · go_enter Tryd.func8, Tryd.ntmps8
      go_wp2
      go_ret
      exact ⟨rfl, Below.refl _ _⟩
    · go_enter Tryd.func8, Tryd.ntmps8
      go_wp2
      go_ret
      exact ⟨rfl, Below.refl _ _⟩
end Go.Proofs.YtcdknbclhdllkaaDoor
