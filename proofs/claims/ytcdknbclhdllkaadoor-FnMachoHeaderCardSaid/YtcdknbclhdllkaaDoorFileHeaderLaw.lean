/-
  impl.MachoHeader: its contracts; the walk of the law FnMachoHeader.
-/
import Derived.Test.YtcdknbclhdllkaaDoorFileHeader
import Derived.Test.YtcdknbclhdllkaaDoorWidths
namespace Go.Proofs.YtcdknbclhdllkaaDoor
set_option linter.unusedVariables false
set_option linter.unusedSimpArgs false
open Go Go.RowKit

/-- The numbers of FileHeader. -/
def nFileHeader (big : Bool) (s : List UInt8) : List Nat := [num big (s.take 4), num big ((s.drop 4).take 4), num big ((s.drop 8).take 4), num big ((s.drop 12).take 4), num big ((s.drop 16).take 4), num big ((s.drop 20).take 4), num big ((s.drop 24).take 4)]
theorem nFileHeader_eq (big : Bool) (l : List UInt8) : nFileHeader big (l.take 28) = (List.range 7).map fun i => num big ((l.drop (4 * i)).take 4) := by
  simp [nFileHeader, List.range_succ, List.drop_take, List.take_take]

set_option maxRecDepth 100000 in
set_option maxHeartbeats 300000 in
theorem implFileHeader_all (big : Bool) (A : Option Addr) (l : List UInt8) (n c : Nat) (hN : Hid (n = l.length)) (hb : n ≤ 2147483647) (hZ : 28 ≤ n) (w : World) (hA : RB w A l) :
    Calls Tryd.prog 19 #[.bool big, .slice A n c] w fun e w' => (∃ v, e = .returned (.tuple #[.slice v 7 7, .bool true]) ∧ Hid (RC w' v 1 7 ((nFileHeader big (l.take 28)).map uv))) ∧ Below w.heap.size w w' := by
  obtain ⟨s, hS⟩ : ∃ s, l.take 28 = s := ⟨_, rfl⟩
  rw [hS]
  have HS := Lib.hid hS
  clear hS
  go_enter Tryd.func19, Tryd.ntmps19
  go_wp2_with fail
  refine (order_any big w).mono ?_
  rintro e w' ⟨rfl, rfl⟩
  go_wp2_with fail
  refine (copied_any A l n c hN.out hb w hA).mono ?_
  rintro e w1 ⟨⟨v, rfl, hown⟩, hb1⟩
  obtain ⟨-, A1, c1, rfl, R1, hc1, hcm, hA1, hA2⟩ := RB.of_owns hown
  have R1 := Lib.hid R1
  clear hown hA1 hA2 hcm
  go_wp2_with fail
  refine (zzFileHeader_all A1 l n c1 big w1 hN hb hZ hc1 R1 (R1.out.ltA (by have := hN.out; omega))).mono ?_
  rintro e w2 ⟨rfl, hb2⟩
  rw [HS.out]
  have hbw : Hid (Below w.heap.size w w2) := Lib.hid (hb1.trans (hb2.mono hb1.size))
  have g2 := Lib.hid (heap_alloc_new w2 (.cells #[.int .u32 0, .int .u32 0, .int .u32 0, .int .u32 0, .int .u32 0, .int .u32 0, .int .u32 0] 67))

  have hrow := (congrArg (fun x : World => x.heap[w2.heap.size]?) (World.setRow_alloc_new w2 #[.int .u32 0, .int .u32 0, .int .u32 0, .int .u32 0, .int .u32 0, .int .u32 0, .int .u32 0] (fFileHeader big s).toArray 67)).trans (heap_alloc_new w2 _)
  have c0 := World.cell?_of_row hrow 0 (.int .u32 ((num big (s.take 4) : Nat) : Int)) rfl
  have c1 := World.cell?_of_row hrow 1 (.int .u32 ((num big ((s.drop 4).take 4) : Nat) : Int)) rfl
  have c2 := World.cell?_of_row hrow 2 (.int .u32 ((num big ((s.drop 8).take 4) : Nat) : Int)) rfl
  have c3 := World.cell?_of_row hrow 3 (.int .u32 ((num big ((s.drop 12).take 4) : Nat) : Int)) rfl
  have c4 := World.cell?_of_row hrow 4 (.int .u32 ((num big ((s.drop 16).take 4) : Nat) : Int)) rfl
  have c5 := World.cell?_of_row hrow 5 (.int .u32 ((num big ((s.drop 20).take 4) : Nat) : Int)) rfl
  have c6 := World.cell?_of_row hrow 6 (.int .u32 ((num big ((s.drop 24).take 4) : Nat) : Int)) rfl
  clear hrow
  have W0 := wrap_num4 big s
  have W1 := wrap_num4 big (s.drop 4)
  have W2 := wrap_num4 big (s.drop 8)
  have W3 := wrap_num4 big (s.drop 12)
  have W4 := wrap_num4 big (s.drop 16)
  have W5 := wrap_num4 big (s.drop 20)
  have W6 := wrap_num4 big (s.drop 24)
  go_wp2_with (refine wpList_store_row rfl 67 _ _ rfl w2.heap.size 67 #[.int .u32 0, .int .u32 0, .int .u32 0, .int .u32 0, .int .u32 0, .int .u32 0, .int .u32 0] (fFileHeader big s).toArray rfl rfl g2.out rfl (by kernel_rfl) (oneFileHeader _ _) ?_)
  go_ret2
  exact ⟨⟨_, rfl, Lib.hid (rc_new (vs := (nFileHeader big s).map uv) (by simp) (by simp [nFileHeader]))⟩, (below_setRow (hbw.out.alloc hbw.out.size _) hbw.out.size _).alloc (by have := hbw.out.size; simp; omega) _⟩

set_option maxRecDepth 100000 in
set_option maxHeartbeats 1000000 in
theorem implFileHeader_short (big : Bool) (A : Option Addr) (l : List UInt8) (n c : Nat) (hN : Hid (n = l.length)) (hb : n ≤ 2147483647) (hZ : n < 28) (w : World) (hA : RB w A l) (TE TU : TypeId) (vE vU : Value) (hErr : Hid (ErrsAt w TE TU vE vU)) (h3 : 3 ≤ w.heap.size) :
    Calls Tryd.prog 19 #[.bool big, .slice A n c] w fun e w' => e = .returned (.tuple #[.slice none 0 0, .bool false]) ∧ Below w.heap.size w w' := by
  go_enter Tryd.func19, Tryd.ntmps19
  go_wp2_with fail
  refine (order_any big w).mono ?_
  rintro e w' ⟨rfl, rfl⟩
  go_wp2_with fail
  refine (copied_any A l n c hN.out hb w hA).mono ?_
  rintro e w1 ⟨⟨v, rfl, hown⟩, hb1⟩
  obtain ⟨-, A1, c1, rfl, R1, hc1, hcm, hA1, hA2⟩ := RB.of_owns hown
  have R1 := Lib.hid R1
  have hlt := fun (a : Addr) (ha : A1 = some a) => owned_lt hown (by rw [ha]) 
  have hE1 := Lib.hid (hErr.out.chg (Chg.of_below (S := fun k => w.heap.size ≤ k) hb1 (fun k _ h => h)) (by omega) (by omega))
  have hsz := hb1.size
  clear hown hA1 hA2 hcm
  go_wp2_with fail
  refine (zzFileHeader_short A1 l n c1 big w1 TE TU vE vU hE1 (by omega) hN hb hZ hc1 R1 hlt).mono ?_
  rintro e w2 ⟨⟨TX, vX, rfl⟩, hb2⟩
  have hbw : Hid (Below w.heap.size w w2) := Lib.hid (hb1.trans (hb2.mono hb1.size))
  have g2 := Lib.hid (heap_alloc_new w2 (.cells #[.int .u32 0, .int .u32 0, .int .u32 0, .int .u32 0, .int .u32 0, .int .u32 0, .int .u32 0] 67))
  go_wp2_with (refine wpList_store_self rfl 67 _ _ rfl w2.heap.size 67 #[.int .u32 0, .int .u32 0, .int .u32 0, .int .u32 0, .int .u32 0, .int .u32 0, .int .u32 0] rfl rfl g2.out (by kernel_rfl) (List.all_eq_true.1 rfl) ?_)
  go_ret2
  exact ⟨rfl, hbw.out.alloc hbw.out.size _⟩

set_option maxRecDepth 100000 in
set_option maxHeartbeats 1000000 in
theorem law_FnMachoHeader (a0 : Bool) (a1 : Option Addr) (len1 cap1 : Nat) (z1 : List Int) (w : World) (w1 : IsRow .u8 w a1 len1 cap1 z1) (TE TU : TypeId) (vE vU : Value) (hErr : ErrsAt w TE TU vE vU) (h3 : 3 ≤ w.heap.size) :
    Calls Tryd.prog 7 #[.bool a0, .slice a1 len1 cap1] w fun e w' => e = .returned (.bool true) ∧ Below w.heap.size w w' := by
  obtain ⟨l, hl, hr, hc, hm⟩ := w1.bytes
  have hN := Lib.hid hl
  have hE := Lib.hid hErr
  clear hl w1 hm hErr
  have hff := fieldsOf_fours a0 7 l
  by_cases hb : len1 ≤ 1048576
  · by_cases hZ : 28 ≤ len1
    · rw [if_neg (by have := hN.out; omega), ← nFileHeader_eq] at hff
      have hff := Lib.hid hff
      go_enter Tryd.func7, Tryd.ntmps7
      go_wp2_with fail
      refine (implFileHeader_all a0 a1 l len1 cap1 hN (by omega) hZ w hr).mono ?_
      rintro e w1 ⟨⟨v, rfl, R1⟩, b1⟩
      go_wp2_with fail
      refine (machoHeader_any w1).mono ?_
      rintro e w2 ⟨⟨v2, rfl, own2⟩, b2⟩
      obtain ⟨B, d, rfl, R2, -, -⟩ := RC.of_owns own2
      have R1' := Lib.hid (R1.out.later b2)
      have b12 := Lib.hid (b1.trans (b2.mono b1.size))
      have A2 := Lib.hid (hr.later b12.out)
      clear R1 own2 b1 b2
      go_wp2_with fail
      refine (fields_any a0 a1 B l (List.replicate 7 4) len1 cap1 7 d hN hc (by omega) (Lib.hid (by simp)) (by omega) (Lib.hid (fun x hx => by rw [List.eq_of_mem_replicate hx]; omega)) w2 A2 (Lib.hid R2)).mono ?_
      rintro e w3 ⟨h | ⟨r, v3, e3, rfl, own3⟩, b3⟩
      · rw [hff.out] at h; cases h.1
      obtain rfl := Option.some.inj (hff.out.symm.trans e3)
      obtain ⟨C, d3, rfl, R3, -, -⟩ := RC.of_owns own3
      have R1'' := R1'.out.later b3
      have b13 := Lib.hid (b12.out.trans (b3.mono b12.out.size))
      have eK : (nFileHeader a0 (l.take 28)).length = 7 := rfl
      rw [eK] at R3 ⊢
      clear own3 e3 b3 R1' b12 A2 R2 hff
      have R1'' := Lib.hid R1''
      have R3 := Lib.hid R3
      go_wp2_with fail
      refine (same_yes v C 7 7 d3 (nFileHeader a0 (l.take 28)) w3 (by omega) R1''.out R3.out).mono ?_
      rintro e w4 ⟨rfl, q, rfl⟩
      go_wp2
      go_ret
      exact ⟨rfl, below_drewN b13.out q⟩
    · rw [if_pos (by have := hN.out; omega)] at hff
      have hff := Lib.hid hff
      go_enter Tryd.func7, Tryd.ntmps7
      go_wp2_with fail
      refine (implFileHeader_short a0 a1 l len1 cap1 hN (by omega) (by omega) w hr TE TU vE vU hE h3).mono ?_
      rintro e w1 ⟨rfl, b1⟩
      go_wp2_with fail
      refine (machoHeader_any w1).mono ?_
      rintro e w2 ⟨⟨v2, rfl, own2⟩, b2⟩
      obtain ⟨B, d, rfl, R2, -, -⟩ := RC.of_owns own2
      have b12 := Lib.hid (b1.trans (b2.mono b1.size))
      have A2 := Lib.hid (hr.later b12.out)
      clear own2 b1 b2
      go_wp2_with fail
      refine (fields_any a0 a1 B l (List.replicate 7 4) len1 cap1 7 d hN hc (by omega) (Lib.hid (by simp)) (by omega) (Lib.hid (fun x hx => by rw [List.eq_of_mem_replicate hx]; omega)) w2 A2 (Lib.hid R2)).mono ?_
      rintro e w3 ⟨⟨-, rfl⟩ | ⟨r, v3, e3, -, -⟩, b3⟩
      · have b13 := Lib.hid (b12.out.trans (b3.mono b12.out.size))
        clear b3 b12 A2 R2 hff
        go_wp2_with fail
        refine (same_yes none none 0 0 0 [] w3 (by omega) ⟨rfl, fun h => absurd h (Nat.lt_irrefl 0)⟩ ⟨rfl, fun h => absurd h (Nat.lt_irrefl 0)⟩).mono ?_
        rintro e w4 ⟨rfl, q, rfl⟩
        go_wp2
        go_ret
        exact ⟨rfl, below_drewN b13.out q⟩
      · rw [hff.out] at e3; cases e3
  · clear hff
    have hb1 : Hid (1048576 < len1) := Lib.hid (by omega)
    by_cases hb2 : len1 ≤ 2147483647
    · go_enter Tryd.func7, Tryd.ntmps7
      go_wp2
      go_ret
      exact ⟨rfl, Below.refl _ _⟩
    · go_enter Tryd.func7, Tryd.ntmps7
      go_wp2
      go_ret
      exact ⟨rfl, Below.refl _ _⟩
end Go.Proofs.YtcdknbclhdllkaaDoor
