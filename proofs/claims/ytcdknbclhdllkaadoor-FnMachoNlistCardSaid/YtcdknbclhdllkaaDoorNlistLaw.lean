/-
  impl.MachoNlist: its contracts; the walk of the law FnMachoNlist.
-/
import Derived.Test.YtcdknbclhdllkaaDoorNlist64
import Derived.Test.YtcdknbclhdllkaaDoorNlist32
import Derived.Test.YtcdknbclhdllkaaDoorGen
namespace Go.Proofs.YtcdknbclhdllkaaDoor
set_option linter.unusedVariables false
set_option linter.unusedSimpArgs false
open Go Go.RowKit

/-- The numbers of Nlist64. -/
def nNlist64 (big : Bool) (s : List UInt8) : List Nat := [num big (s.take 4), num big ((s.drop 4).take 1), num big ((s.drop 5).take 1), num big ((s.drop 6).take 2), num big ((s.drop 8).take 8)]
theorem nNlist64_eq (big : Bool) (l : List UInt8) : nNlist64 big (l.take 16) = numsOf big [4, 1, 1, 2, 8] l := by
  simp [nNlist64, numsOf, List.drop_take, List.take_take]

set_option maxRecDepth 100000 in
set_option maxHeartbeats 1000000 in
theorem implNlist64_all (big : Bool) (A : Option Addr) (l : List UInt8) (n c : Nat) (hN : Hid (n = l.length)) (hb : n ≤ 2147483647) (hZ : 16 ≤ n) (w : World) (hA : RB w A l) :
    Calls Tryd.prog 22 #[.bool true, .bool big, .slice A n c] w fun e w' => (∃ v, e = .returned (.tuple #[.slice v 5 5, .bool true]) ∧ Hid (RC w' v 1 5 ((nNlist64 big (l.take 16)).map uv))) ∧ Below w.heap.size w w' := by
  obtain ⟨s, hS⟩ : ∃ s, l.take 16 = s := ⟨_, rfl⟩
  rw [hS]
  have HS := Lib.hid hS
  clear hS
  go_enter Tryd.func22, Tryd.ntmps22
  go_wp2_with fail
  refine (order_any big w).mono ?_
  rintro e w' ⟨rfl, rfl⟩
  go_wp2_with fail
  refine (copied_any A l n c hN.out hb w hA).mono ?_
  rintro e w1 ⟨⟨v, rfl, hown⟩, hb1⟩
  obtain ⟨-, A1, c1, rfl, R1, hc1, hcm, hA1, hA2⟩ := RB.of_owns hown
  have R1 := Lib.hid R1
  clear hown hA1 hA2 hcm
  go_wp2_with fail
  refine (zzNlist64_all A1 l n c1 big w1 hN hb hZ hc1 R1 (R1.out.ltA (by have := hN.out; omega))).mono ?_
  rintro e w2 ⟨rfl, hb2⟩
  rw [HS.out]
  have hbw : Hid (Below w.heap.size w w2) := Lib.hid (hb1.trans (hb2.mono hb1.size))
  have g2 := Lib.hid (heap_alloc_new w2 (.cells #[.int .u32 0, .int .u8 0, .int .u8 0, .int .u16 0, .int .u64 0] 76))
  have hrow := (congrArg (fun x : World => x.heap[w2.heap.size]?) (World.setRow_alloc_new w2 #[.int .u32 0, .int .u8 0, .int .u8 0, .int .u16 0, .int .u64 0] (fNlist64 big s).toArray 76)).trans (heap_alloc_new w2 _)
  have c0 := World.cell?_of_row hrow 0 (.int .u32 ((num big (s.take 4) : Nat) : Int)) rfl
  have c1 := World.cell?_of_row hrow 1 (.int .u8 ((num big ((s.drop 4).take 1) : Nat) : Int)) rfl
  have c2 := World.cell?_of_row hrow 2 (.int .u8 ((num big ((s.drop 5).take 1) : Nat) : Int)) rfl
  have c3 := World.cell?_of_row hrow 3 (.int .u16 ((num big ((s.drop 6).take 2) : Nat) : Int)) rfl
  have c4 := World.cell?_of_row hrow 4 (.int .u64 ((num big ((s.drop 8).take 8) : Nat) : Int)) rfl
  clear hrow
  have W0 := wrap_num big s 4 (by omega)
  have W1 := wrap_num big (s.drop 4) 1 (by omega)
  have W2 := wrap_num big (s.drop 5) 1 (by omega)
  have W3 := wrap_num big (s.drop 6) 2 (by omega)
  go_wp2_with (refine wpList_store_row rfl 76 _ _ rfl w2.heap.size 76 #[.int .u32 0, .int .u8 0, .int .u8 0, .int .u16 0, .int .u64 0] (fNlist64 big s).toArray rfl rfl g2.out rfl (by kernel_rfl) (oneNlist64 _ _) ?_)
  go_ret2
  exact ⟨⟨_, rfl, Lib.hid (rc_new (vs := (nNlist64 big s).map uv) (by simp) (by simp [nNlist64]))⟩, (below_setRow (hbw.out.alloc hbw.out.size _) hbw.out.size _).alloc (by have := hbw.out.size; simp; omega) _⟩

set_option maxRecDepth 100000 in
set_option maxHeartbeats 1000000 in
theorem implNlist64_short (big : Bool) (A : Option Addr) (l : List UInt8) (n c : Nat) (hN : Hid (n = l.length)) (hb : n ≤ 2147483647) (hZ : n < 16) (w : World) (hA : RB w A l) (TE TU : TypeId) (vE vU : Value) (hErr : Hid (ErrsAt w TE TU vE vU)) (h3 : 3 ≤ w.heap.size) :
    Calls Tryd.prog 22 #[.bool true, .bool big, .slice A n c] w fun e w' => e = .returned (.tuple #[.slice none 0 0, .bool false]) ∧ Below w.heap.size w w' := by
  go_enter Tryd.func22, Tryd.ntmps22
  go_wp2_with fail
  refine (order_any big w).mono ?_
  rintro e w' ⟨rfl, rfl⟩
  go_wp2_with fail
  refine (copied_any A l n c hN.out hb w hA).mono ?_
  rintro e w1 ⟨⟨v, rfl, hown⟩, hb1⟩
  obtain ⟨-, A1, c1, rfl, R1, hc1, hcm, hA1, hA2⟩ := RB.of_owns hown
  have R1 := Lib.hid R1
  have hlt := fun (a : Addr) (ha : A1 = some a) => owned_lt hown (by rw [ha])
  have hE1 := Lib.hid (hErr.out.chg (Chg.of_below (S := fun k => w.heap.size ≤ k) hb1 (fun k _ h => h)) (by omega) (by omega))
  have hsz := hb1.size
  clear hown hA1 hA2 hcm
  go_wp2_with fail
  refine (zzNlist64_short A1 l n c1 big w1 TE TU vE vU hE1 (by omega) hN hb hZ hc1 R1 hlt).mono ?_
  rintro e w2 ⟨⟨TX, vX, rfl⟩, hb2⟩
  have hbw : Hid (Below w.heap.size w w2) := Lib.hid (hb1.trans (hb2.mono hb1.size))
  have g2 := Lib.hid (heap_alloc_new w2 (.cells #[.int .u32 0, .int .u8 0, .int .u8 0, .int .u16 0, .int .u64 0] 76))
  go_wp2_with (refine wpList_store_self rfl 76 _ _ rfl w2.heap.size 76 #[.int .u32 0, .int .u8 0, .int .u8 0, .int .u16 0, .int .u64 0] rfl rfl g2.out (by kernel_rfl) (List.all_eq_true.1 rfl) ?_)
  go_ret2
  exact ⟨rfl, hbw.out.alloc hbw.out.size _⟩

/-- The numbers of Nlist32. -/
def nNlist32 (big : Bool) (s : List UInt8) : List Nat := [num big (s.take 4), num big ((s.drop 4).take 1), num big ((s.drop 5).take 1), num big ((s.drop 6).take 2), num big ((s.drop 8).take 4)]
theorem nNlist32_eq (big : Bool) (l : List UInt8) : nNlist32 big (l.take 12) = numsOf big [4, 1, 1, 2, 4] l := by
  simp [nNlist32, numsOf, List.drop_take, List.take_take]

set_option maxRecDepth 100000 in
set_option maxHeartbeats 1000000 in
theorem implNlist32_all (big : Bool) (A : Option Addr) (l : List UInt8) (n c : Nat) (hN : Hid (n = l.length)) (hb : n ≤ 2147483647) (hZ : 12 ≤ n) (w : World) (hA : RB w A l) :
    Calls Tryd.prog 22 #[.bool false, .bool big, .slice A n c] w fun e w' => (∃ v, e = .returned (.tuple #[.slice v 5 5, .bool true]) ∧ Hid (RC w' v 1 5 ((nNlist32 big (l.take 12)).map uv))) ∧ Below w.heap.size w w' := by
  obtain ⟨s, hS⟩ : ∃ s, l.take 12 = s := ⟨_, rfl⟩
  rw [hS]
  have HS := Lib.hid hS
  clear hS
  go_enter Tryd.func22, Tryd.ntmps22
  go_wp2_with fail
  refine (order_any big w).mono ?_
  rintro e w' ⟨rfl, rfl⟩
  go_wp2_with fail
  refine (copied_any A l n c hN.out hb w hA).mono ?_
  rintro e w1 ⟨⟨v, rfl, hown⟩, hb1⟩
  obtain ⟨-, A1, c1, rfl, R1, hc1, hcm, hA1, hA2⟩ := RB.of_owns hown
  have R1 := Lib.hid R1
  clear hown hA1 hA2 hcm
  go_wp2_with fail
  refine (zzNlist32_all A1 l n c1 big w1 hN hb hZ hc1 R1 (R1.out.ltA (by have := hN.out; omega))).mono ?_
  rintro e w2 ⟨rfl, hb2⟩
  rw [HS.out]
  have hbw : Hid (Below w.heap.size w w2) := Lib.hid (hb1.trans (hb2.mono hb1.size))
  have g2 := Lib.hid (heap_alloc_new w2 (.cells #[.int .u32 0, .int .u8 0, .int .u8 0, .int .u16 0, .int .u32 0] 80))
  have hrow := (congrArg (fun x : World => x.heap[w2.heap.size]?) (World.setRow_alloc_new w2 #[.int .u32 0, .int .u8 0, .int .u8 0, .int .u16 0, .int .u32 0] (fNlist32 big s).toArray 80)).trans (heap_alloc_new w2 _)
  have c0 := World.cell?_of_row hrow 0 (.int .u32 ((num big (s.take 4) : Nat) : Int)) rfl
  have c1 := World.cell?_of_row hrow 1 (.int .u8 ((num big ((s.drop 4).take 1) : Nat) : Int)) rfl
  have c2 := World.cell?_of_row hrow 2 (.int .u8 ((num big ((s.drop 5).take 1) : Nat) : Int)) rfl
  have c3 := World.cell?_of_row hrow 3 (.int .u16 ((num big ((s.drop 6).take 2) : Nat) : Int)) rfl
  have c4 := World.cell?_of_row hrow 4 (.int .u32 ((num big ((s.drop 8).take 4) : Nat) : Int)) rfl
  clear hrow
  have W0 := wrap_num big s 4 (by omega)
  have W1 := wrap_num big (s.drop 4) 1 (by omega)
  have W2 := wrap_num big (s.drop 5) 1 (by omega)
  have W3 := wrap_num big (s.drop 6) 2 (by omega)
  have W4 := wrap_num big (s.drop 8) 4 (by omega)
  go_wp2_with (refine wpList_store_row rfl 80 _ _ rfl w2.heap.size 80 #[.int .u32 0, .int .u8 0, .int .u8 0, .int .u16 0, .int .u32 0] (fNlist32 big s).toArray rfl rfl g2.out rfl (by kernel_rfl) (oneNlist32 _ _) ?_)
  go_ret2
  exact ⟨⟨_, rfl, Lib.hid (rc_new (vs := (nNlist32 big s).map uv) (by simp) (by simp [nNlist32]))⟩, (below_setRow (hbw.out.alloc hbw.out.size _) hbw.out.size _).alloc (by have := hbw.out.size; simp; omega) _⟩

set_option maxRecDepth 100000 in
set_option maxHeartbeats 1000000 in
theorem implNlist32_short (big : Bool) (A : Option Addr) (l : List UInt8) (n c : Nat) (hN : Hid (n = l.length)) (hb : n ≤ 2147483647) (hZ : n < 12) (w : World) (hA : RB w A l) (TE TU : TypeId) (vE vU : Value) (hErr : Hid (ErrsAt w TE TU vE vU)) (h3 : 3 ≤ w.heap.size) :
    Calls Tryd.prog 22 #[.bool false, .bool big, .slice A n c] w fun e w' => e = .returned (.tuple #[.slice none 0 0, .bool false]) ∧ Below w.heap.size w w' := by
  go_enter Tryd.func22, Tryd.ntmps22
  go_wp2_with fail
  refine (order_any big w).mono ?_
  rintro e w' ⟨rfl, rfl⟩
  go_wp2_with fail
  refine (copied_any A l n c hN.out hb w hA).mono ?_
  rintro e w1 ⟨⟨v, rfl, hown⟩, hb1⟩
  obtain ⟨-, A1, c1, rfl, R1, hc1, hcm, hA1, hA2⟩ := RB.of_owns hown
  have R1 := Lib.hid R1
  have hlt := fun (a : Addr) (ha : A1 = some a) => owned_lt hown (by rw [ha])
  have hE1 := Lib.hid (hErr.out.chg (Chg.of_below (S := fun k => w.heap.size ≤ k) hb1 (fun k _ h => h)) (by omega) (by omega))
  have hsz := hb1.size
  clear hown hA1 hA2 hcm
  go_wp2_with fail
  refine (zzNlist32_short A1 l n c1 big w1 TE TU vE vU hE1 (by omega) hN hb hZ hc1 R1 hlt).mono ?_
  rintro e w2 ⟨⟨TX, vX, rfl⟩, hb2⟩
  have hbw : Hid (Below w.heap.size w w2) := Lib.hid (hb1.trans (hb2.mono hb1.size))
  have g2 := Lib.hid (heap_alloc_new w2 (.cells #[.int .u32 0, .int .u8 0, .int .u8 0, .int .u16 0, .int .u32 0] 80))
  go_wp2_with (refine wpList_store_self rfl 80 _ _ rfl w2.heap.size 80 #[.int .u32 0, .int .u8 0, .int .u8 0, .int .u16 0, .int .u32 0] rfl rfl g2.out (by kernel_rfl) (List.all_eq_true.1 rfl) ?_)
  go_ret2
  exact ⟨rfl, hbw.out.alloc hbw.out.size _⟩

set_option maxRecDepth 100000 in
set_option maxHeartbeats 1000000 in
theorem lawNlist64 (a0 : Bool) (a1 : Option Addr) (len1 cap1 : Nat) (l : List UInt8) (w : World) (hN : Hid (len1 = l.length)) (hr : RB w a1 l) (hc : len1 ≤ cap1) (hb : len1 ≤ 1048576) (TE TU : TypeId) (vE vU : Value) (hE : Hid (ErrsAt w TE TU vE vU)) (h3 : 3 ≤ w.heap.size) :
    Calls Tryd.prog 9 #[.bool true, .bool a0, .slice a1 len1 cap1] w fun e w' => e = .returned (.bool true) ∧ Below w.heap.size w w' := by
  have hff := fieldsOf_all a0 [4, 1, 1, 2, 8] l
  have hwid : widthOf [4, 1, 1, 2, 8] = 16 := rfl
  rw [hwid] at hff
  clear hwid
  by_cases hZ : 16 ≤ len1
  · rw [if_neg (by have := hN.out; omega), ← nNlist64_eq] at hff
    have hff := Lib.hid hff
    go_enter Tryd.func9, Tryd.ntmps9
    go_wp2_with fail
    refine (implNlist64_all a0 a1 l len1 cap1 hN (by omega) hZ w hr).mono ?_
    rintro e w1 ⟨⟨v, rfl, R1⟩, b1⟩
    go_wp2_with fail
    refine (machoNlist_any true w1).mono ?_
    rintro e w2 ⟨⟨B, rfl, R2⟩, b2⟩
    have R1' := Lib.hid (R1.out.later b2)
    have b12 := Lib.hid (b1.trans (b2.mono b1.size))
    have A2 := Lib.hid (hr.later b12.out)
    clear R1 b1 b2
    go_wp2_with fail
    refine (fields_any a0 a1 B l [4, 1, 1, 2, 8] len1 cap1 5 5 hN hc (by omega) (Lib.hid (by simp)) (by omega) (Lib.hid (by decide)) w2 A2 (Lib.hid R2)).mono ?_
    rintro e w3 ⟨h | ⟨r, v3, e3, rfl, own3⟩, b3⟩
    · rw [hff.out] at h; cases h.1
    obtain rfl := Option.some.inj (hff.out.symm.trans e3)
    obtain ⟨C, d3, rfl, R3, -, -⟩ := RC.of_owns own3
    have R1'' := R1'.out.later b3
    have b13 := Lib.hid (b12.out.trans (b3.mono b12.out.size))
    have eK : (nNlist64 a0 (l.take 16)).length = 5 := rfl
    rw [eK] at R3 ⊢
    clear own3 e3 b3 R1' b12 A2 R2 hff
    have R1'' := Lib.hid R1''
    have R3 := Lib.hid R3
    go_wp2_with fail
    refine (same_yes v C 5 5 d3 (nNlist64 a0 (l.take 16)) w3 (by omega) R1''.out R3.out).mono ?_
    rintro e w4 ⟨rfl, q, rfl⟩
    go_wp2
    go_ret
    exact ⟨rfl, below_drewN b13.out q⟩
  · rw [if_pos (by have := hN.out; omega)] at hff
    have hff := Lib.hid hff
    go_enter Tryd.func9, Tryd.ntmps9
    go_wp2_with fail
    refine (implNlist64_short a0 a1 l len1 cap1 hN (by omega) (by omega) w hr TE TU vE vU hE h3).mono ?_
    rintro e w1 ⟨rfl, b1⟩
    go_wp2_with fail
    refine (machoNlist_any true w1).mono ?_
    rintro e w2 ⟨⟨B, rfl, R2⟩, b2⟩
    have b12 := Lib.hid (b1.trans (b2.mono b1.size))
    have A2 := Lib.hid (hr.later b12.out)
    clear b1 b2
    go_wp2_with fail
    refine (fields_any a0 a1 B l [4, 1, 1, 2, 8] len1 cap1 5 5 hN hc (by omega) (Lib.hid (by simp)) (by omega) (Lib.hid (by decide)) w2 A2 (Lib.hid R2)).mono ?_
    rintro e w3 ⟨⟨-, rfl⟩ | ⟨r, v3, e3, -, -⟩, b3⟩
    · have b13 := Lib.hid (b12.out.trans (b3.mono b12.out.size))
      clear b3 b12 A2 R2 hff
      go_wp2_with fail
      refine (same_yes none none 0 0 0 [] w3 (by omega) (rc_none _) (rc_none _)).mono ?_
      rintro e w4 ⟨rfl, q, rfl⟩
      go_wp2
      go_ret
      exact ⟨rfl, below_drewN b13.out q⟩
    · rw [hff.out] at e3; cases e3

set_option maxRecDepth 100000 in
set_option maxHeartbeats 1000000 in
theorem lawNlist32 (a0 : Bool) (a1 : Option Addr) (len1 cap1 : Nat) (l : List UInt8) (w : World) (hN : Hid (len1 = l.length)) (hr : RB w a1 l) (hc : len1 ≤ cap1) (hb : len1 ≤ 1048576) (TE TU : TypeId) (vE vU : Value) (hE : Hid (ErrsAt w TE TU vE vU)) (h3 : 3 ≤ w.heap.size) :
    Calls Tryd.prog 9 #[.bool false, .bool a0, .slice a1 len1 cap1] w fun e w' => e = .returned (.bool true) ∧ Below w.heap.size w w' := by
  have hff := fieldsOf_all a0 [4, 1, 1, 2, 4] l
  have hwid : widthOf [4, 1, 1, 2, 4] = 12 := rfl
  rw [hwid] at hff
  clear hwid
  by_cases hZ : 12 ≤ len1
  · rw [if_neg (by have := hN.out; omega), ← nNlist32_eq] at hff
    have hff := Lib.hid hff
    go_enter Tryd.func9, Tryd.ntmps9
    go_wp2_with fail
    refine (implNlist32_all a0 a1 l len1 cap1 hN (by omega) hZ w hr).mono ?_
    rintro e w1 ⟨⟨v, rfl, R1⟩, b1⟩
    go_wp2_with fail
    refine (machoNlist_any false w1).mono ?_
    rintro e w2 ⟨⟨B, rfl, R2⟩, b2⟩
    have R1' := Lib.hid (R1.out.later b2)
    have b12 := Lib.hid (b1.trans (b2.mono b1.size))
    have A2 := Lib.hid (hr.later b12.out)
    clear R1 b1 b2
    go_wp2_with fail
    refine (fields_any a0 a1 B l [4, 1, 1, 2, 4] len1 cap1 5 5 hN hc (by omega) (Lib.hid (by simp)) (by omega) (Lib.hid (by decide)) w2 A2 (Lib.hid R2)).mono ?_
    rintro e w3 ⟨h | ⟨r, v3, e3, rfl, own3⟩, b3⟩
    · rw [hff.out] at h; cases h.1
    obtain rfl := Option.some.inj (hff.out.symm.trans e3)
    obtain ⟨C, d3, rfl, R3, -, -⟩ := RC.of_owns own3
    have R1'' := R1'.out.later b3
    have b13 := Lib.hid (b12.out.trans (b3.mono b12.out.size))
    have eK : (nNlist32 a0 (l.take 12)).length = 5 := rfl
    rw [eK] at R3 ⊢
    clear own3 e3 b3 R1' b12 A2 R2 hff
    have R1'' := Lib.hid R1''
    have R3 := Lib.hid R3
    go_wp2_with fail
    refine (same_yes v C 5 5 d3 (nNlist32 a0 (l.take 12)) w3 (by omega) R1''.out R3.out).mono ?_
    rintro e w4 ⟨rfl, q, rfl⟩
    go_wp2
    go_ret
    exact ⟨rfl, below_drewN b13.out q⟩
  · rw [if_pos (by have := hN.out; omega)] at hff
    have hff := Lib.hid hff
    go_enter Tryd.func9, Tryd.ntmps9
    go_wp2_with fail
    refine (implNlist32_short a0 a1 l len1 cap1 hN (by omega) (by omega) w hr TE TU vE vU hE h3).mono ?_
    rintro e w1 ⟨rfl, b1⟩
    go_wp2_with fail
    refine (machoNlist_any false w1).mono ?_
    rintro e w2 ⟨⟨B, rfl, R2⟩, b2⟩
    have b12 := Lib.hid (b1.trans (b2.mono b1.size))
    have A2 := Lib.hid (hr.later b12.out)
    clear b1 b2
    go_wp2_with fail
    refine (fields_any a0 a1 B l [4, 1, 1, 2, 4] len1 cap1 5 5 hN hc (by omega) (Lib.hid (by simp)) (by omega) (Lib.hid (by decide)) w2 A2 (Lib.hid R2)).mono ?_
    rintro e w3 ⟨⟨-, rfl⟩ | ⟨r, v3, e3, -, -⟩, b3⟩
    · have b13 := Lib.hid (b12.out.trans (b3.mono b12.out.size))
      clear b3 b12 A2 R2 hff
      go_wp2_with fail
      refine (same_yes none none 0 0 0 [] w3 (by omega) (rc_none _) (rc_none _)).mono ?_
      rintro e w4 ⟨rfl, q, rfl⟩
      go_wp2
      go_ret
      exact ⟨rfl, below_drewN b13.out q⟩
    · rw [hff.out] at e3; cases e3

set_option maxRecDepth 100000 in
set_option maxHeartbeats 1000000 in
theorem law_FnMachoNlist (a0 a1 : Bool) (a2 : Option Addr) (len2 cap2 : Nat) (z2 : List Int) (w : World) (w2 : IsRow .u8 w a2 len2 cap2 z2) (TE TU : TypeId) (vE vU : Value) (hErr : ErrsAt w TE TU vE vU) (h3 : 3 ≤ w.heap.size) :
    Calls Tryd.prog 9 #[.bool a0, .bool a1, .slice a2 len2 cap2] w fun e w' => e = .returned (.bool true) ∧ Below w.heap.size w w' := by
  obtain ⟨l, hl, hr, hc, hm⟩ := w2.bytes
  have hN := Lib.hid hl
  have hE := Lib.hid hErr
  clear hl w2 hm hErr
  by_cases hb : len2 ≤ 1048576
  · cases a0
    · exact lawNlist32 a1 a2 len2 cap2 l w hN hr hc hb TE TU vE vU hE h3
    · exact lawNlist64 a1 a2 len2 cap2 l w hN hr hc hb TE TU vE vU hE h3
  · have hb1 : Hid (1048576 < len2) := Lib.hid (by omega)
    by_cases hb2 : len2 ≤ 2147483647
    · go_enter Tryd.func9, Tryd.ntmps9
      go_wp2
      go_ret
      exact ⟨rfl, Below.refl _ _⟩
    · go_enter Tryd.func9, Tryd.ntmps9
      go_wp2
      go_ret
      exact ⟨rfl, Below.refl _ _⟩
end Go.Proofs.YtcdknbclhdllkaaDoor
