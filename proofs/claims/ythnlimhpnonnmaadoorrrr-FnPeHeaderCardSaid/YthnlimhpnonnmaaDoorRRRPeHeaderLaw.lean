/-
  impl.PeHeader: its contracts; the walk of the law FnPeHeader.
-/
import Derived.Test.YthnlimhpnonnmaaDoorRRRPeFileHeader
import Derived.Test.YthnlimhpnonnmaaDoorRRRGen
namespace Go.Proofs.YthnlimhpnonnmaaDoorRRR
set_option linter.unusedVariables false
set_option linter.unusedSimpArgs false
open Go Go.RowKit

set_option maxHeartbeats 400000 in
theorem peHeader_any (w : World) :
    Calls Tryd.prog 12 #[] w fun e w' => (∃ v, e = .returned (.slice v 7 7) ∧ RC w' v 1 7 (([2, 2, 4, 4, 4, 2, 2] : List Int).map iv)) ∧ Below w.heap.size w w' := by
  go_enter Tryd.func12, Tryd.ntmps12
  go_wp2
  go_ret
  exact ⟨⟨_, rfl, rc_new rfl rfl⟩, (Below.refl _ _).alloc (Nat.le_refl _) _⟩

/-- The numbers of FileHeader. -/
def nFileHeader (big : Bool) (s : List UInt8) : List Nat := [num big (s.take 2), num big ((s.drop 2).take 2), num big ((s.drop 4).take 4), num big ((s.drop 8).take 4), num big ((s.drop 12).take 4), num big ((s.drop 16).take 2), num big ((s.drop 18).take 2)]
theorem nFileHeader_eq (big : Bool) (l : List UInt8) : nFileHeader big (l.take 20) = numsOf big [2, 2, 4, 4, 4, 2, 2] l := by
  simp [nFileHeader, numsOf, List.drop_take, List.take_take]

set_option maxRecDepth 100000 in
set_option maxHeartbeats 1000000 in
theorem implFileHeader_all (A : Option Addr) (l : List UInt8) (n c : Nat) (hN : Hid (n = l.length)) (hb : n ≤ 2147483647) (hZ : 20 ≤ n) (w : World) (hA : RB w A l) :
    Calls Tryd.prog 10 #[.slice A n c] w fun e w' => (∃ v, e = .returned (.tuple #[.slice v 7 7, .bool true]) ∧ Hid (RC w' v 1 7 ((nFileHeader false (l.take 20)).map uv))) ∧ Below w.heap.size w w' := by
  obtain ⟨s, hS⟩ : ∃ s, l.take 20 = s := ⟨_, rfl⟩
  rw [hS]
  have HS := Lib.hid hS
  clear hS
  go_enter Tryd.func10, Tryd.ntmps10
  go_wp2_with fail
  refine (copied_any A l n c hN.out hb w hA).mono ?_
  rintro e w1 ⟨⟨v, rfl, hown⟩, hb1⟩
  obtain ⟨-, A1, c1, rfl, R1, hc1, hcm, hA1, hA2⟩ := RB.of_owns hown
  have R1 := Lib.hid R1
  clear hown hA1 hA2 hcm
  go_wp2_with fail
  refine (zzFileHeader_all A1 l n c1 w1 hN hb hZ hc1 R1 (R1.out.ltA (by have := hN.out; omega))).mono ?_
  rintro e w2 ⟨rfl, hb2⟩
  rw [HS.out]
  have hbw : Hid (Below w.heap.size w w2) := Lib.hid (hb1.trans (hb2.mono hb1.size))
  have g2 := Lib.hid (heap_alloc_new w2 (.cells #[.int .u16 0, .int .u16 0, .int .u32 0, .int .u32 0, .int .u32 0, .int .u16 0, .int .u16 0] 58))
  have hrow := (congrArg (fun x : World => x.heap[w2.heap.size]?) (World.setRow_alloc_new w2 #[.int .u16 0, .int .u16 0, .int .u32 0, .int .u32 0, .int .u32 0, .int .u16 0, .int .u16 0] (fFileHeader false s).toArray 58)).trans (heap_alloc_new w2 _)
  have c0 := World.cell?_of_row hrow 0 (.int .u16 ((num false (s.take 2) : Nat) : Int)) rfl
  have c1 := World.cell?_of_row hrow 1 (.int .u16 ((num false ((s.drop 2).take 2) : Nat) : Int)) rfl
  have c2 := World.cell?_of_row hrow 2 (.int .u32 ((num false ((s.drop 4).take 4) : Nat) : Int)) rfl
  have c3 := World.cell?_of_row hrow 3 (.int .u32 ((num false ((s.drop 8).take 4) : Nat) : Int)) rfl
  have c4 := World.cell?_of_row hrow 4 (.int .u32 ((num false ((s.drop 12).take 4) : Nat) : Int)) rfl
  have c5 := World.cell?_of_row hrow 5 (.int .u16 ((num false ((s.drop 16).take 2) : Nat) : Int)) rfl
  have c6 := World.cell?_of_row hrow 6 (.int .u16 ((num false ((s.drop 18).take 2) : Nat) : Int)) rfl
  clear hrow
  have W0 := wrap_num false s 2 (by omega)
  have W1 := wrap_num false (s.drop 2) 2 (by omega)
  have W2 := wrap_num false (s.drop 4) 4 (by omega)
  have W3 := wrap_num false (s.drop 8) 4 (by omega)
  have W4 := wrap_num false (s.drop 12) 4 (by omega)
  have W5 := wrap_num false (s.drop 16) 2 (by omega)
  have W6 := wrap_num false (s.drop 18) 2 (by omega)
  go_wp2_with (refine wpList_store_row rfl 58 _ _ rfl w2.heap.size 58 #[.int .u16 0, .int .u16 0, .int .u32 0, .int .u32 0, .int .u32 0, .int .u16 0, .int .u16 0] (fFileHeader false s).toArray rfl rfl g2.out rfl (by kernel_rfl) (oneFileHeader false _) ?_)
  go_ret2
  exact ⟨⟨_, rfl, Lib.hid (rc_new (vs := (nFileHeader false s).map uv) (by simp) (by simp [nFileHeader]))⟩, (below_setRow (hbw.out.alloc hbw.out.size _) hbw.out.size _).alloc (by have := hbw.out.size; simp; omega) _⟩

set_option maxRecDepth 100000 in
set_option maxHeartbeats 1000000 in
theorem implFileHeader_short (A : Option Addr) (l : List UInt8) (n c : Nat) (hN : Hid (n = l.length)) (hb : n ≤ 2147483647) (hZ : n < 20) (w : World) (hA : RB w A l) (TE TU : TypeId) (vE vU : Value) (hErr : Hid (ErrsAt w TE TU vE vU)) (h3 : 3 ≤ w.heap.size) :
    Calls Tryd.prog 10 #[.slice A n c] w fun e w' => e = .returned (.tuple #[.slice none 0 0, .bool false]) ∧ Below w.heap.size w w' := by
  go_enter Tryd.func10, Tryd.ntmps10
  go_wp2_with fail
  refine (copied_any A l n c hN.out hb w hA).mono ?_
  rintro e w1 ⟨⟨v, rfl, hown⟩, hb1⟩
  obtain ⟨-, A1, c1, rfl, R1, hc1, hcm, hA1, hA2⟩ := RB.of_owns hown
  have R1 := Lib.hid R1
  have hlt := fun (a : Addr) (ha : A1 = some a) => owned_lt hown (by rw [ha])
  have hE1 := Lib.hid (hErr.out.chg (Chg.of_below (S := fun k => w.heap.size ≤ k) hb1 (fun k _ h => h)) (by omega) (by omega))
  have hsz := hb1.size
  clear hown hA1 hA2 hcm
  go_wp2_with fail
  refine (zzFileHeader_short A1 l n c1 w1 TE TU vE vU hE1 (by omega) hN hb hZ hc1 R1 hlt).mono ?_
  rintro e w2 ⟨⟨TX, vX, rfl⟩, hb2⟩
  have hbw : Hid (Below w.heap.size w w2) := Lib.hid (hb1.trans (hb2.mono hb1.size))
  have g2 := Lib.hid (heap_alloc_new w2 (.cells #[.int .u16 0, .int .u16 0, .int .u32 0, .int .u32 0, .int .u32 0, .int .u16 0, .int .u16 0] 58))
  go_wp2_with (refine wpList_store_self rfl 58 _ _ rfl w2.heap.size 58 #[.int .u16 0, .int .u16 0, .int .u32 0, .int .u32 0, .int .u32 0, .int .u16 0, .int .u16 0] rfl rfl g2.out (by kernel_rfl) (List.all_eq_true.1 rfl) ?_)
  go_ret2
  exact ⟨rfl, hbw.out.alloc hbw.out.size _⟩

set_option maxRecDepth 100000 in
set_option maxHeartbeats 1000000 in
theorem lawFileHeader (a1 : Option Addr) (len1 cap1 : Nat) (l : List UInt8) (w : World) (hN : Hid (len1 = l.length)) (hr : RB w a1 l) (hc : len1 ≤ cap1) (hb : len1 ≤ 1048576) (TE TU : TypeId) (vE vU : Value) (hE : Hid (ErrsAt w TE TU vE vU)) (h3 : 3 ≤ w.heap.size) :
    Calls Tryd.prog 3 #[.slice a1 len1 cap1] w fun e w' => e = .returned (.bool true) ∧ Below w.heap.size w w' := by
  have hff := fieldsOf_all false [2, 2, 4, 4, 4, 2, 2] l
  have hwid : widthOf [2, 2, 4, 4, 4, 2, 2] = 20 := rfl
  rw [hwid] at hff
  clear hwid
  by_cases hZ : 20 ≤ len1
  · rw [if_neg (by have := hN.out; omega), ← nFileHeader_eq] at hff
    have hff := Lib.hid hff
    go_enter Tryd.func3, Tryd.ntmps3
    go_wp2_with fail
    refine (implFileHeader_all a1 l len1 cap1 hN (by omega) hZ w hr).mono ?_
    rintro e w1 ⟨⟨v, rfl, R1⟩, b1⟩
    go_wp2_with fail
    refine (peHeader_any w1).mono ?_
    rintro e w2 ⟨⟨B, rfl, R2⟩, b2⟩
    have R1' := Lib.hid (R1.out.later b2)
    have b12 := Lib.hid (b1.trans (b2.mono b1.size))
    have A2 := Lib.hid (hr.later b12.out)
    clear R1 b1 b2
    go_wp2_with fail
    refine (fields_any false a1 B l [2, 2, 4, 4, 4, 2, 2] len1 cap1 7 7 hN hc (by omega) (Lib.hid (by simp)) (by omega) (Lib.hid (by decide)) w2 A2 (Lib.hid R2)).mono ?_
    rintro e w3 ⟨h | ⟨r, v3, e3, rfl, own3⟩, b3⟩
    · rw [hff.out] at h; cases h.1
    obtain rfl := Option.some.inj (hff.out.symm.trans e3)
    obtain ⟨C, d3, rfl, R3, -, -⟩ := RC.of_owns own3
    have R1'' := R1'.out.later b3
    have b13 := Lib.hid (b12.out.trans (b3.mono b12.out.size))
    have eK : (nFileHeader false (l.take 20)).length = 7 := rfl
    rw [eK] at R3 ⊢
    clear own3 e3 b3 R1' b12 A2 R2 hff
    have R1'' := Lib.hid R1''
    have R3 := Lib.hid R3
    go_wp2_with fail
    refine (same_yes v C 7 7 d3 (nFileHeader false (l.take 20)) w3 (by omega) R1''.out R3.out).mono ?_
    rintro e w4 ⟨rfl, q, rfl⟩
    go_wp2
    go_ret
    exact ⟨rfl, below_drewN b13.out q⟩
  · rw [if_pos (by have := hN.out; omega)] at hff
    have hff := Lib.hid hff
    go_enter Tryd.func3, Tryd.ntmps3
    go_wp2_with fail
    refine (implFileHeader_short a1 l len1 cap1 hN (by omega) (by omega) w hr TE TU vE vU hE h3).mono ?_
    rintro e w1 ⟨rfl, b1⟩
    go_wp2_with fail
    refine (peHeader_any w1).mono ?_
    rintro e w2 ⟨⟨B, rfl, R2⟩, b2⟩
    have b12 := Lib.hid (b1.trans (b2.mono b1.size))
    have A2 := Lib.hid (hr.later b12.out)
    clear b1 b2
    go_wp2_with fail
    refine (fields_any false a1 B l [2, 2, 4, 4, 4, 2, 2] len1 cap1 7 7 hN hc (by omega) (Lib.hid (by simp)) (by omega) (Lib.hid (by decide)) w2 A2 (Lib.hid R2)).mono ?_
    rintro e w3 ⟨⟨-, rfl⟩ | ⟨r, v3, e3, -, -⟩, b3⟩
    · have b13 := Lib.hid (b12.out.trans (b3.mono b12.out.size))
      clear b3 b12 A2 R2 hff
      go_wp2_with fail
      refine (same_yes none none 0 0 0 [] w3 (by omega) (rc_none _) (rc_none _)).mono ?_
      rintro e w4 ⟨rfl, q, rfl⟩
      go_wp2
      go_ret
      exact ⟨rfl, below_drewN b13.out q⟩
    · rw [hff.out] at e3; cases e3

set_option maxRecDepth 100000 in
set_option maxHeartbeats 1000000 in
theorem law_FnPeHeader (a0 : Option Addr) (len0 cap0 : Nat) (z0 : List Int) (w : World) (w0 : IsRow .u8 w a0 len0 cap0 z0) (TE TU : TypeId) (vE vU : Value) (hErr : ErrsAt w TE TU vE vU) (h3 : 3 ≤ w.heap.size) :
    Calls Tryd.prog 3 #[.slice a0 len0 cap0] w fun e w' => e = .returned (.bool true) ∧ Below w.heap.size w w' := by
  obtain ⟨l, hl, hr, hc, hm⟩ := w0.bytes
  have hN := Lib.hid hl
  have hE := Lib.hid hErr
  clear hl w0 hm hErr
  by_cases hb : len0 ≤ 1048576
  · exact lawFileHeader a0 len0 cap0 l w hN hr hc hb TE TU vE vU hE h3
  · have hb1 : Hid (1048576 < len0) := Lib.hid (by omega)
    by_cases hb2 : len0 ≤ 2147483647
    · go_enter Tryd.func3, Tryd.ntmps3
      go_wp2
      go_ret
      exact ⟨rfl, Below.refl _ _⟩
    · go_enter Tryd.func3, Tryd.ntmps3
      go_wp2
      go_ret
      exact ⟨rfl, Below.refl _ _⟩
end Go.Proofs.YthnlimhpnonnmaaDoorRRR
