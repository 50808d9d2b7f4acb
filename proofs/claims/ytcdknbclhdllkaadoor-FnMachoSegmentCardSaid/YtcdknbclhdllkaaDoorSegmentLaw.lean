/-
  impl.MachoSegment: its contracts; the walk of the law FnMachoSegment.
-/
import Derived.Test.YtcdknbclhdllkaaDoorSegment64
import Derived.Test.YtcdknbclhdllkaaDoorSegment32
import Derived.Test.YtcdknbclhdllkaaDoorGen
namespace Go.Proofs.YtcdknbclhdllkaaDoor
set_option linter.unusedVariables false
set_option linter.unusedSimpArgs false
open Go Go.RowKit
attribute [local go_sem ↓] Go.wp_at_zero Go.wp_at_succ

set_option maxHeartbeats 400000 in
theorem machoSegment_any (wide : Bool) (w : World) :
    Calls Tryd.prog 25 #[.bool wide] w fun e w' => (∃ v, e = .returned (.slice v 11 11) ∧ RC w' v 1 11 (([4, 4, -16, if wide then 8 else 4, if wide then 8 else 4, if wide then 8 else 4, if wide then 8 else 4, 4, 4, 4, 4] : List Int).map iv)) ∧ Below w.heap.size w w' := by
  cases wide
  all_goals
    go_enter Tryd.func25, Tryd.ntmps25
    go_wp2_with fail
    refine (addr_any _ w).mono ?_
    rintro e w' ⟨rfl, rfl⟩
    go_wp2
    go_ret
    exact ⟨⟨_, rfl, rc_new rfl rfl⟩, (Below.refl _ _).alloc (Nat.le_refl _) _⟩

/-- The numbers of Segment64. -/
def nSegment64 (big : Bool) (s : List UInt8) : List Nat := [num big (s.take 4), num big ((s.drop 4).take 4), num big ((s.drop 24).take 8), num big ((s.drop 32).take 8), num big ((s.drop 40).take 8), num big ((s.drop 48).take 8), num big ((s.drop 56).take 4), num big ((s.drop 60).take 4), num big ((s.drop 64).take 4), num big ((s.drop 68).take 4)]
theorem nSegment64_eq (big : Bool) (l : List UInt8) : nSegment64 big (l.take 72) = numsOf big [4, 4, -16, 8, 8, 8, 8, 4, 4, 4, 4] l := by
  simp [nSegment64, numsOf, List.drop_take, List.take_take]

set_option maxRecDepth 100000 in
set_option maxHeartbeats 2000000 in
theorem implSegment64_all (big : Bool) (A : Option Addr) (l : List UInt8) (n c : Nat) (hN : Hid (n = l.length)) (hb : n ≤ 2147483647) (hZ : 72 ≤ n) (w : World) (hA : RB w A l) (h3 : 3 ≤ w.heap.size) :
    Calls Tryd.prog 24 #[.bool true, .bool big, .slice A n c] w fun e w' => (∃ N2 k2 v, e = .returned (.tuple #[.slice N2 16 k2, .slice v 10 10, .bool true]) ∧ Hid (RB w' N2 ((l.drop 8).take 16)) ∧ Hid (RC w' v 1 10 ((nSegment64 big (l.take 72)).map uv))) ∧ Below w.heap.size w w' := by
  obtain ⟨s, hS⟩ : ∃ s, l.take 72 = s := ⟨_, rfl⟩
  have hs : s.length = 72 := by rw [← hS]; have := hN.out; simp; omega
  have en2 : ((l.drop 8).take 16) = ((s.drop 8).take 16) := by rw [← hS]; simp [List.drop_take, List.take_take]
  rw [hS, en2]
  have HS := Lib.hid hS
  have hsize := Lib.hid (sizeSegment64 big s hs)
  have hinfo : (Tryd.prog.info? 86).map (·.size) = some 26 := by kernel_rfl
  obtain ⟨y2_0, y2_1, y2_2, y2_3, y2_4, y2_5, y2_6, y2_7, y2_8, y2_9, y2_10, y2_11, y2_12, y2_13, y2_14, y2_15, hy2, hrow⟩ := fSegment64_row big s hs
  rw [hy2]
  replace hrow := Lib.hid hrow
  clear hS hs hy2 en2
  replace hinfo := Lib.hid hinfo
  go_enter Tryd.func24, Tryd.ntmps24
  go_wp2_with fail
  refine (order_any big w).mono ?_
  rintro e w' ⟨rfl, rfl⟩
  go_wp2_with fail
  refine (copied_any A l n c hN.out hb w hA).mono ?_
  rintro e w1 ⟨⟨v, rfl, hown⟩, hb1⟩
  obtain ⟨-, A1, k1, rfl, R1, hc1, hcm, hA1, hA2⟩ := RB.of_owns hown
  replace R1 := Lib.hid R1
  have hsz1 := hb1.size
  clear hown hA1 hA2 hcm
  go_wp2_with fail
  refine (zzSegment64_all A1 l n k1 big w1 hN hb hZ hc1 R1 (R1.out.ltA (by have := hN.out; omega)) (by omega)).mono ?_
  rintro e w2 ⟨rfl, hb2⟩
  rw [HS.out]
  have hbw : Hid (Below w.heap.size w w2) := Lib.hid (hb1.trans (hb2.mono hb1.size))
  have g2 := Lib.hid (heap_alloc_new w2 (.cells #[.int .u32 0, .int .u32 0, .int .u8 0, .int .u8 0, .int .u8 0, .int .u8 0, .int .u8 0, .int .u8 0, .int .u8 0, .int .u8 0, .int .u8 0, .int .u8 0, .int .u8 0, .int .u8 0, .int .u8 0, .int .u8 0, .int .u8 0, .int .u8 0, .int .u64 0, .int .u64 0, .int .u64 0, .int .u64 0, .int .u32 0, .int .u32 0, .int .u32 0, .int .u32 0] 86))
  have hrowW := (congrArg (fun x : World => x.heap[w2.heap.size]?) (World.setRow_alloc_new w2 #[.int .u32 0, .int .u32 0, .int .u8 0, .int .u8 0, .int .u8 0, .int .u8 0, .int .u8 0, .int .u8 0, .int .u8 0, .int .u8 0, .int .u8 0, .int .u8 0, .int .u8 0, .int .u8 0, .int .u8 0, .int .u8 0, .int .u8 0, .int .u8 0, .int .u64 0, .int .u64 0, .int .u64 0, .int .u64 0, .int .u32 0, .int .u32 0, .int .u32 0, .int .u32 0] (fSegment64 big s).toArray 86)).trans (heap_alloc_new w2 _)
  replace hrow := hrow.out
  have c0 := World.cell?_of_row hrowW 0 (.int .u32 ((num big (s.take 4) : Nat) : Int)) (by rw [hrow]; rfl)
  have c1 := World.cell?_of_row hrowW 1 (.int .u32 ((num big ((s.drop 4).take 4) : Nat) : Int)) (by rw [hrow]; rfl)
  have c3 := World.cell?_of_row hrowW 18 (.int .u64 ((num big ((s.drop 24).take 8) : Nat) : Int)) (by rw [hrow]; rfl)
  have c4 := World.cell?_of_row hrowW 19 (.int .u64 ((num big ((s.drop 32).take 8) : Nat) : Int)) (by rw [hrow]; rfl)
  have c5 := World.cell?_of_row hrowW 20 (.int .u64 ((num big ((s.drop 40).take 8) : Nat) : Int)) (by rw [hrow]; rfl)
  have c6 := World.cell?_of_row hrowW 21 (.int .u64 ((num big ((s.drop 48).take 8) : Nat) : Int)) (by rw [hrow]; rfl)
  have c7 := World.cell?_of_row hrowW 22 (.int .u32 ((num big ((s.drop 56).take 4) : Nat) : Int)) (by rw [hrow]; rfl)
  have c8 := World.cell?_of_row hrowW 23 (.int .u32 ((num big ((s.drop 60).take 4) : Nat) : Int)) (by rw [hrow]; rfl)
  have c9 := World.cell?_of_row hrowW 24 (.int .u32 ((num big ((s.drop 64).take 4) : Nat) : Int)) (by rw [hrow]; rfl)
  have c10 := World.cell?_of_row hrowW 25 (.int .u32 ((num big ((s.drop 68).take 4) : Nat) : Int)) (by rw [hrow]; rfl)
  have nm2 := Lib.hid (RB.of_mid (pre := [.int .u32 ((num big (s.take 4) : Nat) : Int), .int .u32 ((num big ((s.drop 4).take 4) : Nat) : Int)]) (post := [.int .u64 ((num big ((s.drop 24).take 8) : Nat) : Int), .int .u64 ((num big ((s.drop 32).take 8) : Nat) : Int), .int .u64 ((num big ((s.drop 40).take 8) : Nat) : Int), .int .u64 ((num big ((s.drop 48).take 8) : Nat) : Int), .int .u32 ((num big ((s.drop 56).take 4) : Nat) : Int), .int .u32 ((num big ((s.drop 60).take 4) : Nat) : Int), .int .u32 ((num big ((s.drop 64).take 4) : Nat) : Int), .int .u32 ((num big ((s.drop 68).take 4) : Nat) : Int)]) (l := [y2_0, y2_1, y2_2, y2_3, y2_4, y2_5, y2_6, y2_7, y2_8, y2_9, y2_10, y2_11, y2_12, y2_13, y2_14, y2_15]) hrowW (by rw [hrow]; rfl) 2 rfl)
  clear hrowW
  replace hrow := Lib.hid hrow
  have W0 := wrap_num big s 4 (by omega)
  have W1 := wrap_num big (s.drop 4) 4 (by omega)
  have W7 := wrap_num big (s.drop 56) 4 (by omega)
  have W8 := wrap_num big (s.drop 60) 4 (by omega)
  have W9 := wrap_num big (s.drop 64) 4 (by omega)
  have W10 := wrap_num big (s.drop 68) 4 (by omega)
  have hb3 : Hid (Below w.heap.size w ((w2.alloc (.cells #[.int .u32 0, .int .u32 0, .int .u8 0, .int .u8 0, .int .u8 0, .int .u8 0, .int .u8 0, .int .u8 0, .int .u8 0, .int .u8 0, .int .u8 0, .int .u8 0, .int .u8 0, .int .u8 0, .int .u8 0, .int .u8 0, .int .u8 0, .int .u8 0, .int .u64 0, .int .u64 0, .int .u64 0, .int .u64 0, .int .u32 0, .int .u32 0, .int .u32 0, .int .u32 0] 86)).setRow w2.heap.size (fSegment64 big s).toArray)) := Lib.hid (below_setRow (hbw.out.alloc hbw.out.size _) hbw.out.size _)
  have hl3 : w2.heap.size < ((w2.alloc (.cells #[.int .u32 0, .int .u32 0, .int .u8 0, .int .u8 0, .int .u8 0, .int .u8 0, .int .u8 0, .int .u8 0, .int .u8 0, .int .u8 0, .int .u8 0, .int .u8 0, .int .u8 0, .int .u8 0, .int .u8 0, .int .u8 0, .int .u8 0, .int .u8 0, .int .u64 0, .int .u64 0, .int .u64 0, .int .u64 0, .int .u32 0, .int .u32 0, .int .u32 0, .int .u32 0] 86)).setRow w2.heap.size (fSegment64 big s).toArray).heap.size := by simp
  clear hb1 hb2 hsz1
  go_wp2_with (refine wpList_store_row rfl 86 _ _ rfl w2.heap.size 86 #[.int .u32 0, .int .u32 0, .int .u8 0, .int .u8 0, .int .u8 0, .int .u8 0, .int .u8 0, .int .u8 0, .int .u8 0, .int .u8 0, .int .u8 0, .int .u8 0, .int .u8 0, .int .u8 0, .int .u8 0, .int .u8 0, .int .u8 0, .int .u8 0, .int .u64 0, .int .u64 0, .int .u64 0, .int .u64 0, .int .u32 0, .int .u32 0, .int .u32 0, .int .u32 0] (fSegment64 big s).toArray rfl rfl g2.out (by rw [hsize.out]; rfl) (by rw [hsize.out]; exact hinfo.out) (oneSegment64 big _) ?_)
  generalize (w2.alloc (.cells #[.int .u32 0, .int .u32 0, .int .u8 0, .int .u8 0, .int .u8 0, .int .u8 0, .int .u8 0, .int .u8 0, .int .u8 0, .int .u8 0, .int .u8 0, .int .u8 0, .int .u8 0, .int .u8 0, .int .u8 0, .int .u8 0, .int .u8 0, .int .u8 0, .int .u64 0, .int .u64 0, .int .u64 0, .int .u64 0, .int .u32 0, .int .u32 0, .int .u32 0, .int .u32 0] 86)).setRow w2.heap.size (fSegment64 big s).toArray = W3 at *
  clear g2
  generalize w2.heap.size = V at *
  go_region_held3 (fun w' => w'.cell? ⟨V, 0, none⟩ = some (.int .u32 ((num big (s.take 4) : Nat) : Int)) ∧ w'.cell? ⟨V, 1, none⟩ = some (.int .u32 ((num big ((s.drop 4).take 4) : Nat) : Int)) ∧ w'.cell? ⟨V, 18, none⟩ = some (.int .u64 ((num big ((s.drop 24).take 8) : Nat) : Int)) ∧ w'.cell? ⟨V, 19, none⟩ = some (.int .u64 ((num big ((s.drop 32).take 8) : Nat) : Int)) ∧ w'.cell? ⟨V, 20, none⟩ = some (.int .u64 ((num big ((s.drop 40).take 8) : Nat) : Int)) ∧ w'.cell? ⟨V, 21, none⟩ = some (.int .u64 ((num big ((s.drop 48).take 8) : Nat) : Int)) ∧ w'.cell? ⟨V, 22, none⟩ = some (.int .u32 ((num big ((s.drop 56).take 4) : Nat) : Int)) ∧ w'.cell? ⟨V, 23, none⟩ = some (.int .u32 ((num big ((s.drop 60).take 4) : Nat) : Int)) ∧ w'.cell? ⟨V, 24, none⟩ = some (.int .u32 ((num big ((s.drop 64).take 4) : Nat) : Int)) ∧ w'.cell? ⟨V, 25, none⟩ = some (.int .u32 ((num big ((s.drop 68).take 4) : Nat) : Int))) (first | go_keep | (refine ⟨?_, ?_, ?_, ?_, ?_, ?_, ?_, ?_, ?_, ?_⟩ <;> refine (hbA.cell ?_).trans ?_ <;> first | assumption | (simp; omega) | go_keep))
    (first | (go_at_call 30; refine (copied_any (some ⟨V, 2, none⟩) [y2_0, y2_1, y2_2, y2_3, y2_4, y2_5, y2_6, y2_7, y2_8, y2_9, y2_10, y2_11, y2_12, y2_13, y2_14, y2_15] 16 16 rfl (by omega) _ (by first | exact nm2.out | exact nm2.out.later ((Below.refl _ _).alloc (Nat.le_refl _) _))).mono ?_; rintro e wA ⟨⟨vA, rfl, hownA⟩, hbA⟩; obtain ⟨-, NA, kA, rfl, RA, -, -, -, -⟩ := RB.of_owns hownA; replace RA := Lib.hid RA; (try replace hbA := Below.undrew hbA)) )
  all_goals
    have hz3 := hb3.out.size
    have hzA := hbA.size
    try simp at hzA
    go_wp2
    go_ret3
    refine ⟨⟨_, _, _, rfl, Lib.hid ?_, Lib.hid ?_⟩, ?_⟩
    · (first | exact RA.out | exact RA.out.later ((Below.refl _ _).alloc (Nat.le_refl _) _))
    · (first | exact (rc_new (vs := (nSegment64 big s).map uv) rfl (by simp [nSegment64])) | exact (rc_new (vs := (nSegment64 big s).map uv) rfl (by simp [nSegment64])).later hbA)
    · (repeat (first | exact hb3.out | refine Below.drew ?_ | refine Below.alloc ?_ (by first | omega | (simp; omega)) _ | refine Below.trans ?_ (hbA.mono (by first | omega | (simp; omega))) ))

set_option maxRecDepth 100000 in
set_option maxHeartbeats 1000000 in
theorem implSegment64_short (big : Bool) (A : Option Addr) (l : List UInt8) (n c : Nat) (hN : Hid (n = l.length)) (hb : n ≤ 2147483647) (hZ : n < 72) (w : World) (hA : RB w A l) (TE TU : TypeId) (vE vU : Value) (hErr : Hid (ErrsAt w TE TU vE vU)) (h3 : 3 ≤ w.heap.size) :
    Calls Tryd.prog 24 #[.bool true, .bool big, .slice A n c] w fun e w' => e = .returned (.tuple #[.slice none 0 0, .slice none 0 0, .bool false]) ∧ Below w.heap.size w w' := by
  go_enter Tryd.func24, Tryd.ntmps24
  go_wp2_with fail
  refine (order_any big w).mono ?_
  rintro e w' ⟨rfl, rfl⟩
  go_wp2_with fail
  refine (copied_any A l n c hN.out hb w hA).mono ?_
  rintro e w1 ⟨⟨v, rfl, hown⟩, hb1⟩
  obtain ⟨-, A1, k1, rfl, R1, hc1, hcm, hA1, hA2⟩ := RB.of_owns hown
  replace R1 := Lib.hid R1
  have hlt := fun (a : Addr) (ha : A1 = some a) => owned_lt hown (by rw [ha])
  have hE1 := Lib.hid (hErr.out.chg (Chg.of_below (S := fun k => w.heap.size ≤ k) hb1 (fun k _ h => h)) (by omega) (by omega))
  have hsz := hb1.size
  clear hown hA1 hA2 hcm
  go_wp2_with fail
  refine (zzSegment64_short A1 l n k1 big w1 TE TU vE vU hE1 (by omega) hN hb hZ hc1 R1 hlt).mono ?_
  rintro e w2 ⟨⟨TX, vX, rfl⟩, hb2⟩
  have hbw : Hid (Below w.heap.size w w2) := Lib.hid (hb1.trans (hb2.mono hb1.size))
  have g2 := Lib.hid (heap_alloc_new w2 (.cells #[.int .u32 0, .int .u32 0, .int .u8 0, .int .u8 0, .int .u8 0, .int .u8 0, .int .u8 0, .int .u8 0, .int .u8 0, .int .u8 0, .int .u8 0, .int .u8 0, .int .u8 0, .int .u8 0, .int .u8 0, .int .u8 0, .int .u8 0, .int .u8 0, .int .u64 0, .int .u64 0, .int .u64 0, .int .u64 0, .int .u32 0, .int .u32 0, .int .u32 0, .int .u32 0] 86))
  go_wp2_with (refine wpList_store_self rfl 86 _ _ rfl w2.heap.size 86 #[.int .u32 0, .int .u32 0, .int .u8 0, .int .u8 0, .int .u8 0, .int .u8 0, .int .u8 0, .int .u8 0, .int .u8 0, .int .u8 0, .int .u8 0, .int .u8 0, .int .u8 0, .int .u8 0, .int .u8 0, .int .u8 0, .int .u8 0, .int .u8 0, .int .u64 0, .int .u64 0, .int .u64 0, .int .u64 0, .int .u32 0, .int .u32 0, .int .u32 0, .int .u32 0] rfl rfl g2.out (by kernel_rfl) (List.all_eq_true.1 rfl) ?_)
  go_ret3
  exact ⟨rfl, hbw.out.alloc hbw.out.size _⟩

/-- The numbers of Segment32. -/
def nSegment32 (big : Bool) (s : List UInt8) : List Nat := [num big (s.take 4), num big ((s.drop 4).take 4), num big ((s.drop 24).take 4), num big ((s.drop 28).take 4), num big ((s.drop 32).take 4), num big ((s.drop 36).take 4), num big ((s.drop 40).take 4), num big ((s.drop 44).take 4), num big ((s.drop 48).take 4), num big ((s.drop 52).take 4)]
theorem nSegment32_eq (big : Bool) (l : List UInt8) : nSegment32 big (l.take 56) = numsOf big [4, 4, -16, 4, 4, 4, 4, 4, 4, 4, 4] l := by
  simp [nSegment32, numsOf, List.drop_take, List.take_take]

set_option maxRecDepth 100000 in
set_option maxHeartbeats 2000000 in
theorem implSegment32_all (big : Bool) (A : Option Addr) (l : List UInt8) (n c : Nat) (hN : Hid (n = l.length)) (hb : n ≤ 2147483647) (hZ : 56 ≤ n) (w : World) (hA : RB w A l) (h3 : 3 ≤ w.heap.size) :
    Calls Tryd.prog 24 #[.bool false, .bool big, .slice A n c] w fun e w' => (∃ N2 k2 v, e = .returned (.tuple #[.slice N2 16 k2, .slice v 10 10, .bool true]) ∧ Hid (RB w' N2 ((l.drop 8).take 16)) ∧ Hid (RC w' v 1 10 ((nSegment32 big (l.take 56)).map uv))) ∧ Below w.heap.size w w' := by
  obtain ⟨s, hS⟩ : ∃ s, l.take 56 = s := ⟨_, rfl⟩
  have hs : s.length = 56 := by rw [← hS]; have := hN.out; simp; omega
  have en2 : ((l.drop 8).take 16) = ((s.drop 8).take 16) := by rw [← hS]; simp [List.drop_take, List.take_take]
  rw [hS, en2]
  have HS := Lib.hid hS
  have hsize := Lib.hid (sizeSegment32 big s hs)
  have hinfo : (Tryd.prog.info? 90).map (·.size) = some 26 := by kernel_rfl
  obtain ⟨y2_0, y2_1, y2_2, y2_3, y2_4, y2_5, y2_6, y2_7, y2_8, y2_9, y2_10, y2_11, y2_12, y2_13, y2_14, y2_15, hy2, hrow⟩ := fSegment32_row big s hs
  rw [hy2]
  replace hrow := Lib.hid hrow
  clear hS hs hy2 en2
  replace hinfo := Lib.hid hinfo
  go_enter Tryd.func24, Tryd.ntmps24
  go_wp2_with fail
  refine (order_any big w).mono ?_
  rintro e w' ⟨rfl, rfl⟩
  go_wp2_with fail
  refine (copied_any A l n c hN.out hb w hA).mono ?_
  rintro e w1 ⟨⟨v, rfl, hown⟩, hb1⟩
  obtain ⟨-, A1, k1, rfl, R1, hc1, hcm, hA1, hA2⟩ := RB.of_owns hown
  replace R1 := Lib.hid R1
  have hsz1 := hb1.size
  clear hown hA1 hA2 hcm
  go_wp2_with fail
  refine (zzSegment32_all A1 l n k1 big w1 hN hb hZ hc1 R1 (R1.out.ltA (by have := hN.out; omega)) (by omega)).mono ?_
  rintro e w2 ⟨rfl, hb2⟩
  rw [HS.out]
  have hbw : Hid (Below w.heap.size w w2) := Lib.hid (hb1.trans (hb2.mono hb1.size))
  have g2 := Lib.hid (heap_alloc_new w2 (.cells #[.int .u32 0, .int .u32 0, .int .u8 0, .int .u8 0, .int .u8 0, .int .u8 0, .int .u8 0, .int .u8 0, .int .u8 0, .int .u8 0, .int .u8 0, .int .u8 0, .int .u8 0, .int .u8 0, .int .u8 0, .int .u8 0, .int .u8 0, .int .u8 0, .int .u32 0, .int .u32 0, .int .u32 0, .int .u32 0, .int .u32 0, .int .u32 0, .int .u32 0, .int .u32 0] 90))
  have hrowW := (congrArg (fun x : World => x.heap[w2.heap.size]?) (World.setRow_alloc_new w2 #[.int .u32 0, .int .u32 0, .int .u8 0, .int .u8 0, .int .u8 0, .int .u8 0, .int .u8 0, .int .u8 0, .int .u8 0, .int .u8 0, .int .u8 0, .int .u8 0, .int .u8 0, .int .u8 0, .int .u8 0, .int .u8 0, .int .u8 0, .int .u8 0, .int .u32 0, .int .u32 0, .int .u32 0, .int .u32 0, .int .u32 0, .int .u32 0, .int .u32 0, .int .u32 0] (fSegment32 big s).toArray 90)).trans (heap_alloc_new w2 _)
  replace hrow := hrow.out
  have c0 := World.cell?_of_row hrowW 0 (.int .u32 ((num big (s.take 4) : Nat) : Int)) (by rw [hrow]; rfl)
  have c1 := World.cell?_of_row hrowW 1 (.int .u32 ((num big ((s.drop 4).take 4) : Nat) : Int)) (by rw [hrow]; rfl)
  have c3 := World.cell?_of_row hrowW 18 (.int .u32 ((num big ((s.drop 24).take 4) : Nat) : Int)) (by rw [hrow]; rfl)
  have c4 := World.cell?_of_row hrowW 19 (.int .u32 ((num big ((s.drop 28).take 4) : Nat) : Int)) (by rw [hrow]; rfl)
  have c5 := World.cell?_of_row hrowW 20 (.int .u32 ((num big ((s.drop 32).take 4) : Nat) : Int)) (by rw [hrow]; rfl)
  have c6 := World.cell?_of_row hrowW 21 (.int .u32 ((num big ((s.drop 36).take 4) : Nat) : Int)) (by rw [hrow]; rfl)
  have c7 := World.cell?_of_row hrowW 22 (.int .u32 ((num big ((s.drop 40).take 4) : Nat) : Int)) (by rw [hrow]; rfl)
  have c8 := World.cell?_of_row hrowW 23 (.int .u32 ((num big ((s.drop 44).take 4) : Nat) : Int)) (by rw [hrow]; rfl)
  have c9 := World.cell?_of_row hrowW 24 (.int .u32 ((num big ((s.drop 48).take 4) : Nat) : Int)) (by rw [hrow]; rfl)
  have c10 := World.cell?_of_row hrowW 25 (.int .u32 ((num big ((s.drop 52).take 4) : Nat) : Int)) (by rw [hrow]; rfl)
  have nm2 := Lib.hid (RB.of_mid (pre := [.int .u32 ((num big (s.take 4) : Nat) : Int), .int .u32 ((num big ((s.drop 4).take 4) : Nat) : Int)]) (post := [.int .u32 ((num big ((s.drop 24).take 4) : Nat) : Int), .int .u32 ((num big ((s.drop 28).take 4) : Nat) : Int), .int .u32 ((num big ((s.drop 32).take 4) : Nat) : Int), .int .u32 ((num big ((s.drop 36).take 4) : Nat) : Int), .int .u32 ((num big ((s.drop 40).take 4) : Nat) : Int), .int .u32 ((num big ((s.drop 44).take 4) : Nat) : Int), .int .u32 ((num big ((s.drop 48).take 4) : Nat) : Int), .int .u32 ((num big ((s.drop 52).take 4) : Nat) : Int)]) (l := [y2_0, y2_1, y2_2, y2_3, y2_4, y2_5, y2_6, y2_7, y2_8, y2_9, y2_10, y2_11, y2_12, y2_13, y2_14, y2_15]) hrowW (by rw [hrow]; rfl) 2 rfl)
  clear hrowW
  replace hrow := Lib.hid hrow
  have W0 := wrap_num big s 4 (by omega)
  have W1 := wrap_num big (s.drop 4) 4 (by omega)
  have W3 := wrap_num big (s.drop 24) 4 (by omega)
  have W4 := wrap_num big (s.drop 28) 4 (by omega)
  have W5 := wrap_num big (s.drop 32) 4 (by omega)
  have W6 := wrap_num big (s.drop 36) 4 (by omega)
  have W7 := wrap_num big (s.drop 40) 4 (by omega)
  have W8 := wrap_num big (s.drop 44) 4 (by omega)
  have W9 := wrap_num big (s.drop 48) 4 (by omega)
  have W10 := wrap_num big (s.drop 52) 4 (by omega)
  have hb3 : Hid (Below w.heap.size w ((w2.alloc (.cells #[.int .u32 0, .int .u32 0, .int .u8 0, .int .u8 0, .int .u8 0, .int .u8 0, .int .u8 0, .int .u8 0, .int .u8 0, .int .u8 0, .int .u8 0, .int .u8 0, .int .u8 0, .int .u8 0, .int .u8 0, .int .u8 0, .int .u8 0, .int .u8 0, .int .u32 0, .int .u32 0, .int .u32 0, .int .u32 0, .int .u32 0, .int .u32 0, .int .u32 0, .int .u32 0] 90)).setRow w2.heap.size (fSegment32 big s).toArray)) := Lib.hid (below_setRow (hbw.out.alloc hbw.out.size _) hbw.out.size _)
  have hl3 : w2.heap.size < ((w2.alloc (.cells #[.int .u32 0, .int .u32 0, .int .u8 0, .int .u8 0, .int .u8 0, .int .u8 0, .int .u8 0, .int .u8 0, .int .u8 0, .int .u8 0, .int .u8 0, .int .u8 0, .int .u8 0, .int .u8 0, .int .u8 0, .int .u8 0, .int .u8 0, .int .u8 0, .int .u32 0, .int .u32 0, .int .u32 0, .int .u32 0, .int .u32 0, .int .u32 0, .int .u32 0, .int .u32 0] 90)).setRow w2.heap.size (fSegment32 big s).toArray).heap.size := by simp
  clear hb1 hb2 hsz1
  go_wp2_with (refine wpList_store_row rfl 90 _ _ rfl w2.heap.size 90 #[.int .u32 0, .int .u32 0, .int .u8 0, .int .u8 0, .int .u8 0, .int .u8 0, .int .u8 0, .int .u8 0, .int .u8 0, .int .u8 0, .int .u8 0, .int .u8 0, .int .u8 0, .int .u8 0, .int .u8 0, .int .u8 0, .int .u8 0, .int .u8 0, .int .u32 0, .int .u32 0, .int .u32 0, .int .u32 0, .int .u32 0, .int .u32 0, .int .u32 0, .int .u32 0] (fSegment32 big s).toArray rfl rfl g2.out (by rw [hsize.out]; rfl) (by rw [hsize.out]; exact hinfo.out) (oneSegment32 big _) ?_)
  generalize (w2.alloc (.cells #[.int .u32 0, .int .u32 0, .int .u8 0, .int .u8 0, .int .u8 0, .int .u8 0, .int .u8 0, .int .u8 0, .int .u8 0, .int .u8 0, .int .u8 0, .int .u8 0, .int .u8 0, .int .u8 0, .int .u8 0, .int .u8 0, .int .u8 0, .int .u8 0, .int .u32 0, .int .u32 0, .int .u32 0, .int .u32 0, .int .u32 0, .int .u32 0, .int .u32 0, .int .u32 0] 90)).setRow w2.heap.size (fSegment32 big s).toArray = W3 at *
  clear g2
  generalize w2.heap.size = V at *
  go_region_held3 (fun w' => w'.cell? ⟨V, 0, none⟩ = some (.int .u32 ((num big (s.take 4) : Nat) : Int)) ∧ w'.cell? ⟨V, 1, none⟩ = some (.int .u32 ((num big ((s.drop 4).take 4) : Nat) : Int)) ∧ w'.cell? ⟨V, 18, none⟩ = some (.int .u32 ((num big ((s.drop 24).take 4) : Nat) : Int)) ∧ w'.cell? ⟨V, 19, none⟩ = some (.int .u32 ((num big ((s.drop 28).take 4) : Nat) : Int)) ∧ w'.cell? ⟨V, 20, none⟩ = some (.int .u32 ((num big ((s.drop 32).take 4) : Nat) : Int)) ∧ w'.cell? ⟨V, 21, none⟩ = some (.int .u32 ((num big ((s.drop 36).take 4) : Nat) : Int)) ∧ w'.cell? ⟨V, 22, none⟩ = some (.int .u32 ((num big ((s.drop 40).take 4) : Nat) : Int)) ∧ w'.cell? ⟨V, 23, none⟩ = some (.int .u32 ((num big ((s.drop 44).take 4) : Nat) : Int)) ∧ w'.cell? ⟨V, 24, none⟩ = some (.int .u32 ((num big ((s.drop 48).take 4) : Nat) : Int)) ∧ w'.cell? ⟨V, 25, none⟩ = some (.int .u32 ((num big ((s.drop 52).take 4) : Nat) : Int))) (first | go_keep | (refine ⟨?_, ?_, ?_, ?_, ?_, ?_, ?_, ?_, ?_, ?_⟩ <;> refine (hbA.cell ?_).trans ?_ <;> first | assumption | (simp; omega) | go_keep))
    (first | (go_at_call 30; refine (copied_any (some ⟨V, 2, none⟩) [y2_0, y2_1, y2_2, y2_3, y2_4, y2_5, y2_6, y2_7, y2_8, y2_9, y2_10, y2_11, y2_12, y2_13, y2_14, y2_15] 16 16 rfl (by omega) _ (by first | exact nm2.out | exact nm2.out.later ((Below.refl _ _).alloc (Nat.le_refl _) _))).mono ?_; rintro e wA ⟨⟨vA, rfl, hownA⟩, hbA⟩; obtain ⟨-, NA, kA, rfl, RA, -, -, -, -⟩ := RB.of_owns hownA; replace RA := Lib.hid RA; (try replace hbA := Below.undrew hbA)) )
  all_goals
    have hz3 := hb3.out.size
    have hzA := hbA.size
    try simp at hzA
    go_wp2
    go_ret3
    refine ⟨⟨_, _, _, rfl, Lib.hid ?_, Lib.hid ?_⟩, ?_⟩
    · (first | exact RA.out | exact RA.out.later ((Below.refl _ _).alloc (Nat.le_refl _) _))
    · (first | exact (rc_new (vs := (nSegment32 big s).map uv) rfl (by simp [nSegment32])) | exact (rc_new (vs := (nSegment32 big s).map uv) rfl (by simp [nSegment32])).later hbA)
    · (repeat (first | exact hb3.out | refine Below.drew ?_ | refine Below.alloc ?_ (by first | omega | (simp; omega)) _ | refine Below.trans ?_ (hbA.mono (by first | omega | (simp; omega))) ))

set_option maxRecDepth 100000 in
set_option maxHeartbeats 1000000 in
theorem implSegment32_short (big : Bool) (A : Option Addr) (l : List UInt8) (n c : Nat) (hN : Hid (n = l.length)) (hb : n ≤ 2147483647) (hZ : n < 56) (w : World) (hA : RB w A l) (TE TU : TypeId) (vE vU : Value) (hErr : Hid (ErrsAt w TE TU vE vU)) (h3 : 3 ≤ w.heap.size) :
    Calls Tryd.prog 24 #[.bool false, .bool big, .slice A n c] w fun e w' => e = .returned (.tuple #[.slice none 0 0, .slice none 0 0, .bool false]) ∧ Below w.heap.size w w' := by
  go_enter Tryd.func24, Tryd.ntmps24
  go_wp2_with fail
  refine (order_any big w).mono ?_
  rintro e w' ⟨rfl, rfl⟩
  go_wp2_with fail
  refine (copied_any A l n c hN.out hb w hA).mono ?_
  rintro e w1 ⟨⟨v, rfl, hown⟩, hb1⟩
  obtain ⟨-, A1, k1, rfl, R1, hc1, hcm, hA1, hA2⟩ := RB.of_owns hown
  replace R1 := Lib.hid R1
  have hlt := fun (a : Addr) (ha : A1 = some a) => owned_lt hown (by rw [ha])
  have hE1 := Lib.hid (hErr.out.chg (Chg.of_below (S := fun k => w.heap.size ≤ k) hb1 (fun k _ h => h)) (by omega) (by omega))
  have hsz := hb1.size
  clear hown hA1 hA2 hcm
  go_wp2_with fail
  refine (zzSegment32_short A1 l n k1 big w1 TE TU vE vU hE1 (by omega) hN hb hZ hc1 R1 hlt).mono ?_
  rintro e w2 ⟨⟨TX, vX, rfl⟩, hb2⟩
  have hbw : Hid (Below w.heap.size w w2) := Lib.hid (hb1.trans (hb2.mono hb1.size))
  have g2 := Lib.hid (heap_alloc_new w2 (.cells #[.int .u32 0, .int .u32 0, .int .u8 0, .int .u8 0, .int .u8 0, .int .u8 0, .int .u8 0, .int .u8 0, .int .u8 0, .int .u8 0, .int .u8 0, .int .u8 0, .int .u8 0, .int .u8 0, .int .u8 0, .int .u8 0, .int .u8 0, .int .u8 0, .int .u32 0, .int .u32 0, .int .u32 0, .int .u32 0, .int .u32 0, .int .u32 0, .int .u32 0, .int .u32 0] 90))
  go_wp2_with (refine wpList_store_self rfl 90 _ _ rfl w2.heap.size 90 #[.int .u32 0, .int .u32 0, .int .u8 0, .int .u8 0, .int .u8 0, .int .u8 0, .int .u8 0, .int .u8 0, .int .u8 0, .int .u8 0, .int .u8 0, .int .u8 0, .int .u8 0, .int .u8 0, .int .u8 0, .int .u8 0, .int .u8 0, .int .u8 0, .int .u32 0, .int .u32 0, .int .u32 0, .int .u32 0, .int .u32 0, .int .u32 0, .int .u32 0, .int .u32 0] rfl rfl g2.out (by kernel_rfl) (List.all_eq_true.1 rfl) ?_)
  go_ret3
  exact ⟨rfl, hbw.out.alloc hbw.out.size _⟩

set_option maxRecDepth 100000 in
set_option maxHeartbeats 1000000 in
theorem lawSegment64 (a0 : Bool) (a1 : Option Addr) (len1 cap1 : Nat) (l : List UInt8) (w : World) (hN : Hid (len1 = l.length)) (hr : RB w a1 l) (hc : len1 ≤ cap1) (hb : len1 ≤ 1048576) (TE TU : TypeId) (vE vU : Value) (hE : Hid (ErrsAt w TE TU vE vU)) (h3 : 3 ≤ w.heap.size) :
    Calls Tryd.prog 10 #[.bool true, .bool a0, .slice a1 len1 cap1] w fun e w' => e = .returned (.bool true) ∧ Below w.heap.size w w' := by
  have hff := fieldsOf_all a0 [4, 4, -16, 8, 8, 8, 8, 4, 4, 4, 4] l
  have hwid : widthOf [4, 4, -16, 8, 8, 8, 8, 4, 4, 4, 4] = 72 := rfl
  rw [hwid] at hff
  clear hwid
  by_cases hZ : 72 ≤ len1
  · rw [if_neg (by have := hN.out; omega), ← nSegment64_eq] at hff
    replace hff := Lib.hid hff
    go_enter Tryd.func10, Tryd.ntmps10
    go_wp2_with fail
    refine (implSegment64_all a0 a1 l len1 cap1 hN (by omega) hZ w hr h3).mono ?_
    rintro e w1 ⟨⟨N2, k2, v, rfl, RN2, R1⟩, b1⟩
    go_wp2_with fail
    refine (machoSegment_any true w1).mono ?_
    rintro e w2 ⟨⟨B, rfl, R2⟩, b2⟩
    have R1' := Lib.hid (R1.out.later b2)
    have b12 := Lib.hid (b1.trans (b2.mono b1.size))
    have A2 := Lib.hid (hr.later b12.out)
    replace b2 := Lib.hid b2
    replace b1 := Lib.hid b1
    clear R1
    go_wp2_with fail
    refine (fields_any a0 a1 B l [4, 4, -16, 8, 8, 8, 8, 4, 4, 4, 4] len1 cap1 11 11 hN hc (by omega) (Lib.hid (by simp)) (by omega) (Lib.hid (by decide)) w2 A2 (Lib.hid R2)).mono ?_
    rintro e w3 ⟨h | ⟨r, v3, e3, rfl, own3⟩, b3⟩
    · rw [hff.out] at h; cases h.1
    obtain rfl := Option.some.inj (hff.out.symm.trans e3)
    obtain ⟨C, d3, rfl, R3, -, -⟩ := RC.of_owns own3
    have R1'' := R1'.out.later b3
    have b13 := Lib.hid (b12.out.trans (b3.mono b12.out.size))
    have b23 := Lib.hid (b2.out.trans (b3.mono b2.out.size))
    have A3 := Lib.hid (A2.out.later b3)
    have eK : (nSegment64 a0 (l.take 72)).length = 10 := rfl
    rw [eK] at R3 ⊢
    clear own3 e3 b3 R1' b12 A2 R2 hff b1 b2
    replace R1'' := Lib.hid R1''
    replace R3 := Lib.hid R3
    have RN2' := Lib.hid (RN2.out.later b23.out)
    have hcv2 := fun q => run_conv_RB (P := Tryd.prog) (w := w3.drewN q) Tryd.underlying22 Tryd.underlying5 Tryd.underlying9 (RN2'.out.drewN q) (n := 16) (c := k2) (by have := hN.out; simp; omega)
    have hsl : ∀ W, (Instr.slice 22 (.slice a1 len1 cap1) (some (.int .i64 8)) (some (.int .i64 24)) none).run Tryd.prog W = .ok (.slice (slA a1 cap1 8) 16 (cap1 - 8)) W := fun W => run_slice_mid (P := Tryd.prog) Tryd.underlying22 (info_parts Tryd.infoByte).choose_spec.1 (info_parts Tryd.infoByte).choose_spec.2.2.1 a1 len1 cap1 8 24 .i64 .i64 (by omega) (by omega) W
    have hcvb := fun q => run_conv_RB (P := Tryd.prog) (w := w3.drewN q) Tryd.underlying22 Tryd.underlying5 Tryd.underlying9 (((A3.out.drop (c := cap1) (by have := hN.out; omega) 8).take 16).drewN q) (n := 16) (c := cap1 - 8) (by have := hN.out; simp; omega)
    go_wp2_with fail
    go_quiet ((go_at_call 15; exact Calls.quiet_of (same_yes v C 10 10 d3 (nSegment64 a0 (l.take 72)) _ (by omega) R1''.out R3.out)))
    go_wp2
    go_ret
    exact ⟨rfl, below_drewN b13.out _⟩
  · rw [if_pos (by have := hN.out; omega)] at hff
    replace hff := Lib.hid hff
    go_enter Tryd.func10, Tryd.ntmps10
    go_wp2_with fail
    refine (implSegment64_short a0 a1 l len1 cap1 hN (by omega) (by omega) w hr TE TU vE vU hE h3).mono ?_
    rintro e w1 ⟨rfl, b1⟩
    go_wp2_with fail
    refine (machoSegment_any true w1).mono ?_
    rintro e w2 ⟨⟨B, rfl, R2⟩, b2⟩
    have b12 := Lib.hid (b1.trans (b2.mono b1.size))
    have A2 := Lib.hid (hr.later b12.out)
    clear b1 b2
    go_wp2_with fail
    refine (fields_any a0 a1 B l [4, 4, -16, 8, 8, 8, 8, 4, 4, 4, 4] len1 cap1 11 11 hN hc (by omega) (Lib.hid (by simp)) (by omega) (Lib.hid (by decide)) w2 A2 (Lib.hid R2)).mono ?_
    rintro e w3 ⟨⟨-, rfl⟩ | ⟨r, v3, e3, -, -⟩, b3⟩
    · have b13 := Lib.hid (b12.out.trans (b3.mono b12.out.size))
      clear b3 b12 A2 R2 hff
      go_wp2_with fail
      go_quiet ((go_at_call 15; exact Calls.quiet_of (same_yes none none 0 0 0 [] _ (by omega) (rc_none _) (rc_none _))))
      go_wp2
      go_ret
      exact ⟨rfl, below_drewN b13.out _⟩
    · rw [hff.out] at e3; cases e3

set_option maxRecDepth 100000 in
set_option maxHeartbeats 1000000 in
theorem lawSegment32 (a0 : Bool) (a1 : Option Addr) (len1 cap1 : Nat) (l : List UInt8) (w : World) (hN : Hid (len1 = l.length)) (hr : RB w a1 l) (hc : len1 ≤ cap1) (hb : len1 ≤ 1048576) (TE TU : TypeId) (vE vU : Value) (hE : Hid (ErrsAt w TE TU vE vU)) (h3 : 3 ≤ w.heap.size) :
    Calls Tryd.prog 10 #[.bool false, .bool a0, .slice a1 len1 cap1] w fun e w' => e = .returned (.bool true) ∧ Below w.heap.size w w' := by
  have hff := fieldsOf_all a0 [4, 4, -16, 4, 4, 4, 4, 4, 4, 4, 4] l
  have hwid : widthOf [4, 4, -16, 4, 4, 4, 4, 4, 4, 4, 4] = 56 := rfl
  rw [hwid] at hff
  clear hwid
  by_cases hZ : 56 ≤ len1
  · rw [if_neg (by have := hN.out; omega), ← nSegment32_eq] at hff
    replace hff := Lib.hid hff
    go_enter Tryd.func10, Tryd.ntmps10
    go_wp2_with fail
    refine (implSegment32_all a0 a1 l len1 cap1 hN (by omega) hZ w hr h3).mono ?_
    rintro e w1 ⟨⟨N2, k2, v, rfl, RN2, R1⟩, b1⟩
    go_wp2_with fail
    refine (machoSegment_any false w1).mono ?_
    rintro e w2 ⟨⟨B, rfl, R2⟩, b2⟩
    have R1' := Lib.hid (R1.out.later b2)
    have b12 := Lib.hid (b1.trans (b2.mono b1.size))
    have A2 := Lib.hid (hr.later b12.out)
    replace b2 := Lib.hid b2
    replace b1 := Lib.hid b1
    clear R1
    go_wp2_with fail
    refine (fields_any a0 a1 B l [4, 4, -16, 4, 4, 4, 4, 4, 4, 4, 4] len1 cap1 11 11 hN hc (by omega) (Lib.hid (by simp)) (by omega) (Lib.hid (by decide)) w2 A2 (Lib.hid R2)).mono ?_
    rintro e w3 ⟨h | ⟨r, v3, e3, rfl, own3⟩, b3⟩
    · rw [hff.out] at h; cases h.1
    obtain rfl := Option.some.inj (hff.out.symm.trans e3)
    obtain ⟨C, d3, rfl, R3, -, -⟩ := RC.of_owns own3
    have R1'' := R1'.out.later b3
    have b13 := Lib.hid (b12.out.trans (b3.mono b12.out.size))
    have b23 := Lib.hid (b2.out.trans (b3.mono b2.out.size))
    have A3 := Lib.hid (A2.out.later b3)
    have eK : (nSegment32 a0 (l.take 56)).length = 10 := rfl
    rw [eK] at R3 ⊢
    clear own3 e3 b3 R1' b12 A2 R2 hff b1 b2
    replace R1'' := Lib.hid R1''
    replace R3 := Lib.hid R3
    have RN2' := Lib.hid (RN2.out.later b23.out)
    have hcv2 := fun q => run_conv_RB (P := Tryd.prog) (w := w3.drewN q) Tryd.underlying22 Tryd.underlying5 Tryd.underlying9 (RN2'.out.drewN q) (n := 16) (c := k2) (by have := hN.out; simp; omega)
    have hsl : ∀ W, (Instr.slice 22 (.slice a1 len1 cap1) (some (.int .i64 8)) (some (.int .i64 24)) none).run Tryd.prog W = .ok (.slice (slA a1 cap1 8) 16 (cap1 - 8)) W := fun W => run_slice_mid (P := Tryd.prog) Tryd.underlying22 (info_parts Tryd.infoByte).choose_spec.1 (info_parts Tryd.infoByte).choose_spec.2.2.1 a1 len1 cap1 8 24 .i64 .i64 (by omega) (by omega) W
    have hcvb := fun q => run_conv_RB (P := Tryd.prog) (w := w3.drewN q) Tryd.underlying22 Tryd.underlying5 Tryd.underlying9 (((A3.out.drop (c := cap1) (by have := hN.out; omega) 8).take 16).drewN q) (n := 16) (c := cap1 - 8) (by have := hN.out; simp; omega)
    go_wp2_with fail
    go_quiet ((go_at_call 15; exact Calls.quiet_of (same_yes v C 10 10 d3 (nSegment32 a0 (l.take 56)) _ (by omega) R1''.out R3.out)))
    go_wp2
    go_ret
    exact ⟨rfl, below_drewN b13.out _⟩
  · rw [if_pos (by have := hN.out; omega)] at hff
    replace hff := Lib.hid hff
    go_enter Tryd.func10, Tryd.ntmps10
    go_wp2_with fail
    refine (implSegment32_short a0 a1 l len1 cap1 hN (by omega) (by omega) w hr TE TU vE vU hE h3).mono ?_
    rintro e w1 ⟨rfl, b1⟩
    go_wp2_with fail
    refine (machoSegment_any false w1).mono ?_
    rintro e w2 ⟨⟨B, rfl, R2⟩, b2⟩
    have b12 := Lib.hid (b1.trans (b2.mono b1.size))
    have A2 := Lib.hid (hr.later b12.out)
    clear b1 b2
    go_wp2_with fail
    refine (fields_any a0 a1 B l [4, 4, -16, 4, 4, 4, 4, 4, 4, 4, 4] len1 cap1 11 11 hN hc (by omega) (Lib.hid (by simp)) (by omega) (Lib.hid (by decide)) w2 A2 (Lib.hid R2)).mono ?_
    rintro e w3 ⟨⟨-, rfl⟩ | ⟨r, v3, e3, -, -⟩, b3⟩
    · have b13 := Lib.hid (b12.out.trans (b3.mono b12.out.size))
      clear b3 b12 A2 R2 hff
      go_wp2_with fail
      go_quiet ((go_at_call 15; exact Calls.quiet_of (same_yes none none 0 0 0 [] _ (by omega) (rc_none _) (rc_none _))))
      go_wp2
      go_ret
      exact ⟨rfl, below_drewN b13.out _⟩
    · rw [hff.out] at e3; cases e3

set_option maxRecDepth 100000 in
set_option maxHeartbeats 1000000 in
theorem law_FnMachoSegment (a0 a1 : Bool) (a2 : Option Addr) (len2 cap2 : Nat) (z2 : List Int) (w : World) (w2 : IsRow .u8 w a2 len2 cap2 z2) (TE TU : TypeId) (vE vU : Value) (hErr : ErrsAt w TE TU vE vU) (h3 : 3 ≤ w.heap.size) :
    Calls Tryd.prog 10 #[.bool a0, .bool a1, .slice a2 len2 cap2] w fun e w' => e = .returned (.bool true) ∧ Below w.heap.size w w' := by
  obtain ⟨l, hl, hr, hc, hm⟩ := w2.bytes
  have hN := Lib.hid hl
  have hE := Lib.hid hErr
  clear hl w2 hm hErr
  by_cases hb : len2 ≤ 1048576
  ·
    cases a0
    · exact lawSegment32 a1 a2 len2 cap2 l w hN hr hc hb TE TU vE vU hE h3
    · exact lawSegment64 a1 a2 len2 cap2 l w hN hr hc hb TE TU vE vU hE h3
  · have hb1 : Hid (1048576 < len2) := Lib.hid (by omega)
    by_cases hb2 : len2 ≤ 2147483647
    · go_enter Tryd.func10, Tryd.ntmps10
      go_wp2
      go_ret
      exact ⟨rfl, Below.refl _ _⟩
    · go_enter Tryd.func10, Tryd.ntmps10
      go_wp2
      go_ret
      exact ⟨rfl, Below.refl _ _⟩

end Go.Proofs.YtcdknbclhdllkaaDoor
