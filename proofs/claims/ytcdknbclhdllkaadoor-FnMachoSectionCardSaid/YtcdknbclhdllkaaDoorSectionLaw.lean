/-
  impl.MachoSection: its contracts; the walk of the law FnMachoSection.
-/
import Derived.Test.YtcdknbclhdllkaaDoorSection64
import Derived.Test.YtcdknbclhdllkaaDoorSection32
import Derived.Test.YtcdknbclhdllkaaDoorGen
namespace Go.Proofs.YtcdknbclhdllkaaDoor
set_option linter.unusedVariables false
set_option linter.unusedSimpArgs false
open Go Go.RowKit
attribute [local go_sem ↓] Go.wp_at_zero Go.wp_at_succ

theorem bytes_append (a b : List UInt8) : ((⟨a.toArray⟩ : ByteArray) ++ (⟨b.toArray⟩ : ByteArray)) = ⟨(a ++ b).toArray⟩ := by
  apply ByteArray.ext
  simp [ByteArray.data_append]
theorem ret_bool {a : Bool} (h : a = true) : Ending.returned (.bool a) = .returned (.bool true) := by rw [h]

set_option maxHeartbeats 400000 in
theorem machoSection_false (w : World) :
    Calls Tryd.prog 27 #[.bool false] w fun e w' => (∃ v d, e = .returned (.slice v 11 d) ∧ RC w' v 1 11 (([-16, -16, 4, 4, 4, 4, 4, 4, 4, 4, 4] : List Int).map iv)) ∧ Below w.heap.size w w' := by
  obtain ⟨i0, hi, hz0, hz1, hz2⟩ := info_parts Tryd.infoInt
  go_enter Tryd.func27, Tryd.ntmps27
  go_wp2_with fail
  refine (addr_any _ w).mono ?_
  rintro e w' ⟨rfl, rfl⟩
  go_wp2_with fail
  refine (fours_any 7 (by omega) _).mono ?_
  rintro e w1 ⟨⟨v, rfl, hown⟩, hb1⟩
  obtain ⟨A, c, rfl, R1, -, -⟩ := RC.of_owns hown
  have own0 := Lib.hid (((World.ownsRow_lit (base := w.heap.size) (e := 3) (size := 1) w #[.int .i64 (-16), .int .i64 (-16), .int .i64 4, .int .i64 4] 4 (Nat.le_refl _) (by simp [maxLen]) (by simp))).kept (w' := w1) (row := none) ⟨hb1.os, hb1.tape, hb1.output, hb1.size, fun k hk _ => hb1.block k hk⟩ (.inr (by simp [Value.ownBlock])))
  replace R1 := Lib.hid R1
  have hz := hb1.size
  simp only [World.size_alloc] at hz
  have bb := Lib.hid (((Below.refl w.heap.size w).alloc (Nat.le_refl _) _).trans (hb1.mono (by simp)))
  clear hown hb1
  go_wp2_with (at_builtin; refine Stop.mk ?_)
  refine Stop.go ?_
  refine wpList_append_any rfl (.tmp 9) (.tmp 10) 27 rfl w.heap.size 3 i0 (.int .i64 0) 1 8 Tryd.underlying27 hi hz0 hz1 hz2 rfl (by omega) _ 4 _ rfl own0.out A 7 c _ rfl R1.out (List.all_eq_true.1 rfl) (by simp only [maxLen]; omega) (by omega) (by omega) ?_
  intro v2 w2 own2 g2 hat2
  have b2 := Lib.hid (bb.out.grown g2 (by omega) (fun q hq => (own0.out.lt q hq).1))
  have hz2' := b2.out.size
  clear g2 hat2 own0 R1 bb
  go_wp2
  go_ret
  obtain ⟨C, d, rfl, RX, -, -⟩ := RC.of_owns own2
  exact ⟨⟨_, _, rfl, RX⟩, b2.out⟩

set_option maxHeartbeats 400000 in
theorem machoSection_true (w : World) :
    Calls Tryd.prog 27 #[.bool true] w fun e w' => (∃ v d, e = .returned (.slice v 12 d) ∧ RC w' v 1 12 (([-16, -16, 8, 8, 4, 4, 4, 4, 4, 4, 4, 4] : List Int).map iv)) ∧ Below w.heap.size w w' := by
  obtain ⟨i0, hi, hz0, hz1, hz2⟩ := info_parts Tryd.infoInt
  go_enter Tryd.func27, Tryd.ntmps27
  go_wp2_with fail
  refine (addr_any _ w).mono ?_
  rintro e w' ⟨rfl, rfl⟩
  go_wp2_with fail
  refine (fours_any 7 (by omega) _).mono ?_
  rintro e w1 ⟨⟨v, rfl, hown⟩, hb1⟩
  obtain ⟨A, c, rfl, R1, -, -⟩ := RC.of_owns hown
  have own0 := Lib.hid (((World.ownsRow_lit (base := w.heap.size) (e := 3) (size := 1) w #[.int .i64 (-16), .int .i64 (-16), .int .i64 8, .int .i64 8] 4 (Nat.le_refl _) (by simp [maxLen]) (by simp))).kept (w' := w1) (row := none) ⟨hb1.os, hb1.tape, hb1.output, hb1.size, fun k hk _ => hb1.block k hk⟩ (.inr (by simp [Value.ownBlock])))
  replace R1 := Lib.hid R1
  have hz := hb1.size
  simp only [World.size_alloc] at hz
  have bb := Lib.hid (((Below.refl w.heap.size w).alloc (Nat.le_refl _) _).trans (hb1.mono (by simp)))
  clear hown hb1
  go_wp2_with (at_builtin; refine Stop.mk ?_)
  refine Stop.go ?_
  refine wpList_append_any rfl (.tmp 9) (.tmp 10) 27 rfl w.heap.size 3 i0 (.int .i64 0) 1 8 Tryd.underlying27 hi hz0 hz1 hz2 rfl (by omega) _ 4 _ rfl own0.out A 7 c _ rfl R1.out (List.all_eq_true.1 rfl) (by simp only [maxLen]; omega) (by omega) (by omega) ?_
  intro v2 w2 own2 g2 hat2
  have b2 := Lib.hid (bb.out.grown g2 (by omega) (fun q hq => (own0.out.lt q hq).1))
  have hz2' := b2.out.size
  clear g2 hat2 own0 R1 bb
  replace own2 := Lib.hid own2
  go_wp2_with (at_builtin; refine Stop.mk ?_)
  refine Stop.go ?_
  refine wpList_append_any rfl (.tmp 13) (.tmp 14) 27 rfl w.heap.size 3 i0 (.int .i64 0) 1 8 Tryd.underlying27 hi hz0 hz1 hz2 rfl (by omega) _ 11 _ rfl (own2.out.alloc _) (some ⟨w2.heap.size, 0, none⟩) 1 1 [iv 4] rfl (RC.one (World.cell?_alloc_new _ _ _ _)) (fun u hu => by simp at hu; subst hu; rfl) (by simp only [maxLen]; omega) (by omega) (by simp; omega) ?_
  intro v3 w3 own3 g3 hat3
  have b3 := Lib.hid ((b2.out.alloc hz2' _).grown g3 (by simp; omega) (fun q hq => (own2.out.lt q hq).1))
  clear g3 hat3 own2 b2
  go_wp2
  go_ret
  obtain ⟨C, d, rfl, RX, -, -⟩ := RC.of_owns own3
  exact ⟨⟨_, _, rfl, RX⟩, b3.out⟩

/-- The numbers of Section64. -/
def nSection64 (big : Bool) (s : List UInt8) : List Nat := [num big ((s.drop 32).take 8), num big ((s.drop 40).take 8), num big ((s.drop 48).take 4), num big ((s.drop 52).take 4), num big ((s.drop 56).take 4), num big ((s.drop 60).take 4), num big ((s.drop 64).take 4), num big ((s.drop 68).take 4), num big ((s.drop 72).take 4), num big ((s.drop 76).take 4)]
theorem nSection64_eq (big : Bool) (l : List UInt8) : nSection64 big (l.take 80) = numsOf big [-16, -16, 8, 8, 4, 4, 4, 4, 4, 4, 4, 4] l := by
  simp [nSection64, numsOf, List.drop_take, List.take_take]

set_option maxRecDepth 100000 in
set_option maxHeartbeats 2000000 in
theorem implSection64_all (big : Bool) (A : Option Addr) (l : List UInt8) (n c : Nat) (hN : Hid (n = l.length)) (hb : n ≤ 2147483647) (hZ : 80 ≤ n) (w : World) (hA : RB w A l) (h3 : 3 ≤ w.heap.size) :
    Calls Tryd.prog 26 #[.bool true, .bool big, .slice A n c] w fun e w' => (∃ N0 k0 N1 k1 v, e = .returned (.tuple #[.slice N0 16 k0, .slice N1 16 k1, .slice v 10 10, .bool true]) ∧ Hid (RB w' N0 (l.take 16)) ∧ Hid (RB w' N1 ((l.drop 16).take 16)) ∧ Hid (RC w' v 1 10 ((nSection64 big (l.take 80)).map uv))) ∧ Below w.heap.size w w' := by
  obtain ⟨s, hS⟩ : ∃ s, l.take 80 = s := ⟨_, rfl⟩
  have hs : s.length = 80 := by rw [← hS]; have := hN.out; simp; omega
  have en0 : (l.take 16) = (s.take 16) := by rw [← hS]; simp [List.drop_take, List.take_take]
  have en1 : ((l.drop 16).take 16) = ((s.drop 16).take 16) := by rw [← hS]; simp [List.drop_take, List.take_take]
  rw [hS, en0, en1]
  have HS := Lib.hid hS
  have hsize := Lib.hid (sizeSection64 big s hs)
  have hinfo : (Tryd.prog.info? 94).map (·.size) = some 42 := by kernel_rfl
  obtain ⟨y0_0, y0_1, y0_2, y0_3, y0_4, y0_5, y0_6, y0_7, y0_8, y0_9, y0_10, y0_11, y0_12, y0_13, y0_14, y0_15, y1_0, y1_1, y1_2, y1_3, y1_4, y1_5, y1_6, y1_7, y1_8, y1_9, y1_10, y1_11, y1_12, y1_13, y1_14, y1_15, hy0, hy1, hrow⟩ := fSection64_row big s hs
  rw [hy0, hy1]
  replace hrow := Lib.hid hrow
  clear hS hs hy0 en0 hy1 en1
  replace hinfo := Lib.hid hinfo
  go_enter Tryd.func26, Tryd.ntmps26
  go_wp2_with fail
  refine (order_any big w).mono ?_
  rintro e w' ⟨rfl, rfl⟩
  go_wp2_with fail
  refine (copied_any A l n c hN.out hb w hA).mono ?_
  rintro e w1 ⟨⟨v, rfl, hown⟩, hb1⟩
  obtain ⟨-, A1, k1, rfl, R1, hc1, hcm, hA1, hA2⟩ := RB.of_owns hown
  replace R1 := Lib.hid R1
  have hsz1 := hb1.size
  clear hown hA1 hA2 hcm
  go_wp2_with fail
  refine (zzSection64_all A1 l n k1 big w1 hN hb hZ hc1 R1 (R1.out.ltA (by have := hN.out; omega)) (by omega)).mono ?_
  rintro e w2 ⟨rfl, hb2⟩
  rw [HS.out]
  have hbw : Hid (Below w.heap.size w w2) := Lib.hid (hb1.trans (hb2.mono hb1.size))
  have g2 := Lib.hid (heap_alloc_new w2 (.cells #[.int .u8 0, .int .u8 0, .int .u8 0, .int .u8 0, .int .u8 0, .int .u8 0, .int .u8 0, .int .u8 0, .int .u8 0, .int .u8 0, .int .u8 0, .int .u8 0, .int .u8 0, .int .u8 0, .int .u8 0, .int .u8 0, .int .u8 0, .int .u8 0, .int .u8 0, .int .u8 0, .int .u8 0, .int .u8 0, .int .u8 0, .int .u8 0, .int .u8 0, .int .u8 0, .int .u8 0, .int .u8 0, .int .u8 0, .int .u8 0, .int .u8 0, .int .u8 0, .int .u64 0, .int .u64 0, .int .u32 0, .int .u32 0, .int .u32 0, .int .u32 0, .int .u32 0, .int .u32 0, .int .u32 0, .int .u32 0] 94))
  have hrowW := (congrArg (fun x : World => x.heap[w2.heap.size]?) (World.setRow_alloc_new w2 #[.int .u8 0, .int .u8 0, .int .u8 0, .int .u8 0, .int .u8 0, .int .u8 0, .int .u8 0, .int .u8 0, .int .u8 0, .int .u8 0, .int .u8 0, .int .u8 0, .int .u8 0, .int .u8 0, .int .u8 0, .int .u8 0, .int .u8 0, .int .u8 0, .int .u8 0, .int .u8 0, .int .u8 0, .int .u8 0, .int .u8 0, .int .u8 0, .int .u8 0, .int .u8 0, .int .u8 0, .int .u8 0, .int .u8 0, .int .u8 0, .int .u8 0, .int .u8 0, .int .u64 0, .int .u64 0, .int .u32 0, .int .u32 0, .int .u32 0, .int .u32 0, .int .u32 0, .int .u32 0, .int .u32 0, .int .u32 0] (fSection64 big s).toArray 94)).trans (heap_alloc_new w2 _)
  replace hrowW := Lib.hid hrowW
  have Wr4 := wrap_num big (s.drop 48) 4 (by omega)
  have Wr5 := wrap_num big (s.drop 52) 4 (by omega)
  have Wr6 := wrap_num big (s.drop 56) 4 (by omega)
  have Wr7 := wrap_num big (s.drop 60) 4 (by omega)
  have Wr8 := wrap_num big (s.drop 64) 4 (by omega)
  have Wr9 := wrap_num big (s.drop 68) 4 (by omega)
  have Wr10 := wrap_num big (s.drop 72) 4 (by omega)
  have Wr11 := wrap_num big (s.drop 76) 4 (by omega)
  have hb3 : Hid (Below w.heap.size w ((w2.alloc (.cells #[.int .u8 0, .int .u8 0, .int .u8 0, .int .u8 0, .int .u8 0, .int .u8 0, .int .u8 0, .int .u8 0, .int .u8 0, .int .u8 0, .int .u8 0, .int .u8 0, .int .u8 0, .int .u8 0, .int .u8 0, .int .u8 0, .int .u8 0, .int .u8 0, .int .u8 0, .int .u8 0, .int .u8 0, .int .u8 0, .int .u8 0, .int .u8 0, .int .u8 0, .int .u8 0, .int .u8 0, .int .u8 0, .int .u8 0, .int .u8 0, .int .u8 0, .int .u8 0, .int .u64 0, .int .u64 0, .int .u32 0, .int .u32 0, .int .u32 0, .int .u32 0, .int .u32 0, .int .u32 0, .int .u32 0, .int .u32 0] 94)).setRow w2.heap.size (fSection64 big s).toArray)) := Lib.hid (below_setRow (hbw.out.alloc hbw.out.size _) hbw.out.size _)
  have hl3 : w2.heap.size < ((w2.alloc (.cells #[.int .u8 0, .int .u8 0, .int .u8 0, .int .u8 0, .int .u8 0, .int .u8 0, .int .u8 0, .int .u8 0, .int .u8 0, .int .u8 0, .int .u8 0, .int .u8 0, .int .u8 0, .int .u8 0, .int .u8 0, .int .u8 0, .int .u8 0, .int .u8 0, .int .u8 0, .int .u8 0, .int .u8 0, .int .u8 0, .int .u8 0, .int .u8 0, .int .u8 0, .int .u8 0, .int .u8 0, .int .u8 0, .int .u8 0, .int .u8 0, .int .u8 0, .int .u8 0, .int .u64 0, .int .u64 0, .int .u32 0, .int .u32 0, .int .u32 0, .int .u32 0, .int .u32 0, .int .u32 0, .int .u32 0, .int .u32 0] 94)).setRow w2.heap.size (fSection64 big s).toArray).heap.size := by simp
  clear hb1 hb2 hsz1
  go_wp2_with (refine wpList_store_row rfl 94 _ _ rfl w2.heap.size 94 #[.int .u8 0, .int .u8 0, .int .u8 0, .int .u8 0, .int .u8 0, .int .u8 0, .int .u8 0, .int .u8 0, .int .u8 0, .int .u8 0, .int .u8 0, .int .u8 0, .int .u8 0, .int .u8 0, .int .u8 0, .int .u8 0, .int .u8 0, .int .u8 0, .int .u8 0, .int .u8 0, .int .u8 0, .int .u8 0, .int .u8 0, .int .u8 0, .int .u8 0, .int .u8 0, .int .u8 0, .int .u8 0, .int .u8 0, .int .u8 0, .int .u8 0, .int .u8 0, .int .u64 0, .int .u64 0, .int .u32 0, .int .u32 0, .int .u32 0, .int .u32 0, .int .u32 0, .int .u32 0, .int .u32 0, .int .u32 0] (fSection64 big s).toArray rfl rfl g2.out (by rw [hsize.out]; rfl) (by rw [hsize.out]; exact hinfo.out) (oneSection64 big _) ?_)
  generalize (w2.alloc (.cells #[.int .u8 0, .int .u8 0, .int .u8 0, .int .u8 0, .int .u8 0, .int .u8 0, .int .u8 0, .int .u8 0, .int .u8 0, .int .u8 0, .int .u8 0, .int .u8 0, .int .u8 0, .int .u8 0, .int .u8 0, .int .u8 0, .int .u8 0, .int .u8 0, .int .u8 0, .int .u8 0, .int .u8 0, .int .u8 0, .int .u8 0, .int .u8 0, .int .u8 0, .int .u8 0, .int .u8 0, .int .u8 0, .int .u8 0, .int .u8 0, .int .u8 0, .int .u8 0, .int .u64 0, .int .u64 0, .int .u32 0, .int .u32 0, .int .u32 0, .int .u32 0, .int .u32 0, .int .u32 0, .int .u32 0, .int .u32 0] 94)).setRow w2.heap.size (fSection64 big s).toArray = W3 at *
  clear g2
  generalize w2.heap.size = V at *
  replace hrowW := hrowW.out
  rw [hrow.out] at hrowW
  have c2 := World.cell?_of_row hrowW 32 (.int .u64 ((num big ((s.drop 32).take 8) : Nat) : Int)) rfl
  have c3 := World.cell?_of_row hrowW 33 (.int .u64 ((num big ((s.drop 40).take 8) : Nat) : Int)) rfl
  have c4 := World.cell?_of_row hrowW 34 (.int .u32 ((num big ((s.drop 48).take 4) : Nat) : Int)) rfl
  have c5 := World.cell?_of_row hrowW 35 (.int .u32 ((num big ((s.drop 52).take 4) : Nat) : Int)) rfl
  have c6 := World.cell?_of_row hrowW 36 (.int .u32 ((num big ((s.drop 56).take 4) : Nat) : Int)) rfl
  have c7 := World.cell?_of_row hrowW 37 (.int .u32 ((num big ((s.drop 60).take 4) : Nat) : Int)) rfl
  have c8 := World.cell?_of_row hrowW 38 (.int .u32 ((num big ((s.drop 64).take 4) : Nat) : Int)) rfl
  have c9 := World.cell?_of_row hrowW 39 (.int .u32 ((num big ((s.drop 68).take 4) : Nat) : Int)) rfl
  have c10 := World.cell?_of_row hrowW 40 (.int .u32 ((num big ((s.drop 72).take 4) : Nat) : Int)) rfl
  have c11 := World.cell?_of_row hrowW 41 (.int .u32 ((num big ((s.drop 76).take 4) : Nat) : Int)) rfl
  have nm0 := Lib.hid (RB.of_mid (pre := []) (post := [bv y1_0, bv y1_1, bv y1_2, bv y1_3, bv y1_4, bv y1_5, bv y1_6, bv y1_7, bv y1_8, bv y1_9, bv y1_10, bv y1_11, bv y1_12, bv y1_13, bv y1_14, bv y1_15, .int .u64 ((num big ((s.drop 32).take 8) : Nat) : Int), .int .u64 ((num big ((s.drop 40).take 8) : Nat) : Int), .int .u32 ((num big ((s.drop 48).take 4) : Nat) : Int), .int .u32 ((num big ((s.drop 52).take 4) : Nat) : Int), .int .u32 ((num big ((s.drop 56).take 4) : Nat) : Int), .int .u32 ((num big ((s.drop 60).take 4) : Nat) : Int), .int .u32 ((num big ((s.drop 64).take 4) : Nat) : Int), .int .u32 ((num big ((s.drop 68).take 4) : Nat) : Int), .int .u32 ((num big ((s.drop 72).take 4) : Nat) : Int), .int .u32 ((num big ((s.drop 76).take 4) : Nat) : Int)]) (l := [y0_0, y0_1, y0_2, y0_3, y0_4, y0_5, y0_6, y0_7, y0_8, y0_9, y0_10, y0_11, y0_12, y0_13, y0_14, y0_15]) hrowW rfl 0 rfl)
  have nm1 := Lib.hid (RB.of_mid (pre := [bv y0_0, bv y0_1, bv y0_2, bv y0_3, bv y0_4, bv y0_5, bv y0_6, bv y0_7, bv y0_8, bv y0_9, bv y0_10, bv y0_11, bv y0_12, bv y0_13, bv y0_14, bv y0_15]) (post := [.int .u64 ((num big ((s.drop 32).take 8) : Nat) : Int), .int .u64 ((num big ((s.drop 40).take 8) : Nat) : Int), .int .u32 ((num big ((s.drop 48).take 4) : Nat) : Int), .int .u32 ((num big ((s.drop 52).take 4) : Nat) : Int), .int .u32 ((num big ((s.drop 56).take 4) : Nat) : Int), .int .u32 ((num big ((s.drop 60).take 4) : Nat) : Int), .int .u32 ((num big ((s.drop 64).take 4) : Nat) : Int), .int .u32 ((num big ((s.drop 68).take 4) : Nat) : Int), .int .u32 ((num big ((s.drop 72).take 4) : Nat) : Int), .int .u32 ((num big ((s.drop 76).take 4) : Nat) : Int)]) (l := [y1_0, y1_1, y1_2, y1_3, y1_4, y1_5, y1_6, y1_7, y1_8, y1_9, y1_10, y1_11, y1_12, y1_13, y1_14, y1_15]) hrowW rfl 16 rfl)
  have hrA := Lib.hid hrowW
  clear hrowW
  go_region_held3 (fun w' => w'.cell? ⟨V, 32, none⟩ = some (.int .u64 ((num big ((s.drop 32).take 8) : Nat) : Int)) ∧ w'.cell? ⟨V, 33, none⟩ = some (.int .u64 ((num big ((s.drop 40).take 8) : Nat) : Int)) ∧ w'.cell? ⟨V, 34, none⟩ = some (.int .u32 ((num big ((s.drop 48).take 4) : Nat) : Int)) ∧ w'.cell? ⟨V, 35, none⟩ = some (.int .u32 ((num big ((s.drop 52).take 4) : Nat) : Int)) ∧ w'.cell? ⟨V, 36, none⟩ = some (.int .u32 ((num big ((s.drop 56).take 4) : Nat) : Int)) ∧ w'.cell? ⟨V, 37, none⟩ = some (.int .u32 ((num big ((s.drop 60).take 4) : Nat) : Int)) ∧ w'.cell? ⟨V, 38, none⟩ = some (.int .u32 ((num big ((s.drop 64).take 4) : Nat) : Int)) ∧ w'.cell? ⟨V, 39, none⟩ = some (.int .u32 ((num big ((s.drop 68).take 4) : Nat) : Int)) ∧ w'.cell? ⟨V, 40, none⟩ = some (.int .u32 ((num big ((s.drop 72).take 4) : Nat) : Int)) ∧ w'.cell? ⟨V, 41, none⟩ = some (.int .u32 ((num big ((s.drop 76).take 4) : Nat) : Int))) (first | exact ⟨c2, c3, c4, c5, c6, c7, c8, c9, c10, c11⟩ | exact ⟨World.cell?_of_row hrA.out 32 _ rfl, World.cell?_of_row hrA.out 33 _ rfl, World.cell?_of_row hrA.out 34 _ rfl, World.cell?_of_row hrA.out 35 _ rfl, World.cell?_of_row hrA.out 36 _ rfl, World.cell?_of_row hrA.out 37 _ rfl, World.cell?_of_row hrA.out 38 _ rfl, World.cell?_of_row hrA.out 39 _ rfl, World.cell?_of_row hrA.out 40 _ rfl, World.cell?_of_row hrA.out 41 _ rfl⟩ | go_keep)
    (first | (go_at_call 30; refine (copied_any (some ⟨V, 0, none⟩) [y0_0, y0_1, y0_2, y0_3, y0_4, y0_5, y0_6, y0_7, y0_8, y0_9, y0_10, y0_11, y0_12, y0_13, y0_14, y0_15] 16 16 rfl (by omega) _ (by first | exact nm0.out | exact nm0.out.later ((Below.refl _ _).alloc (Nat.le_refl _) _))).mono ?_; rintro e wA ⟨⟨vA, rfl, hownA⟩, hbA⟩; obtain ⟨-, NA, kA, rfl, RA, -, -, -, -⟩ := RB.of_owns hownA; replace RA := Lib.hid RA; (try replace hbA := Below.undrew hbA); (first | (replace hrA := row_later hbA hrA) | (replace hrA := row_later hbA (row_alloc hrA _)))) | (go_at_call 30; refine (copied_any (some ⟨V, 16, none⟩) [y1_0, y1_1, y1_2, y1_3, y1_4, y1_5, y1_6, y1_7, y1_8, y1_9, y1_10, y1_11, y1_12, y1_13, y1_14, y1_15] 16 16 rfl (by omega) _ (by first | exact nm1.out | exact nm1.out.later ((Below.refl _ _).alloc (Nat.le_refl _) _) | exact nm1.out.later hbA | exact (nm1.out.later hbA).later ((Below.refl _ _).alloc (Nat.le_refl _) _) | exact (nm1.out.later ((Below.refl _ _).alloc (Nat.le_refl _) _)).later hbA)).mono ?_; rintro e wB ⟨⟨vB, rfl, hownB⟩, hbB⟩; obtain ⟨-, NB, kB, rfl, RB, -, -, -, -⟩ := RB.of_owns hownB; replace RB := Lib.hid RB; (try replace hbB := Below.undrew hbB); (first | (replace hrA := row_later hbB hrA) | (replace hrA := row_later hbB (row_alloc hrA _)))) )
  all_goals
    have hz3 := hb3.out.size
    have hzA := hbA.size
    try simp at hzA
    have hzB := hbB.size
    try simp at hzB
    go_wp2
    refine bodyPost_ret (results_tmp4 rfl _ _) rfl ?_
    refine ⟨⟨_, _, _, _, _, rfl, Lib.hid ?_, Lib.hid ?_, Lib.hid ?_⟩, ?_⟩
    · (first | exact RA.out | exact RA.out.later ((Below.refl _ _).alloc (Nat.le_refl _) _) | exact RA.out.later hbB | exact (RA.out.later ((Below.refl _ _).alloc (Nat.le_refl _) _)).later hbB | exact (RA.out.later hbB).later ((Below.refl _ _).alloc (Nat.le_refl _) _))
    · (first | exact RB.out | exact RB.out.later ((Below.refl _ _).alloc (Nat.le_refl _) _) | exact RB.out.later hbB | exact (RB.out.later ((Below.refl _ _).alloc (Nat.le_refl _) _)).later hbB | exact (RB.out.later hbB).later ((Below.refl _ _).alloc (Nat.le_refl _) _))
    · (first | exact (rc_new (vs := (nSection64 big s).map uv) rfl (by simp [nSection64])) | exact (rc_new (vs := (nSection64 big s).map uv) rfl (by simp [nSection64])).later hbA | exact (rc_new (vs := (nSection64 big s).map uv) rfl (by simp [nSection64])).later hbB | exact ((rc_new (vs := (nSection64 big s).map uv) rfl (by simp [nSection64])).later hbA).later hbB)
    · (repeat (first | exact hb3.out | refine Below.drew ?_ | refine Below.alloc ?_ (by first | omega | (simp; omega)) _ | refine Below.trans ?_ (hbA.mono (by first | omega | (simp; omega))) | refine Below.trans ?_ (hbB.mono (by first | omega | (simp; omega))) ))

set_option maxRecDepth 100000 in
set_option maxHeartbeats 1000000 in
theorem implSection64_short (big : Bool) (A : Option Addr) (l : List UInt8) (n c : Nat) (hN : Hid (n = l.length)) (hb : n ≤ 2147483647) (hZ : n < 80) (w : World) (hA : RB w A l) (TE TU : TypeId) (vE vU : Value) (hErr : Hid (ErrsAt w TE TU vE vU)) (h3 : 3 ≤ w.heap.size) :
    Calls Tryd.prog 26 #[.bool true, .bool big, .slice A n c] w fun e w' => e = .returned (.tuple #[.slice none 0 0, .slice none 0 0, .slice none 0 0, .bool false]) ∧ Below w.heap.size w w' := by
  go_enter Tryd.func26, Tryd.ntmps26
  go_wp2_with fail
  refine (order_any big w).mono ?_
  rintro e w' ⟨rfl, rfl⟩
  go_wp2_with fail
  refine (copied_any A l n c hN.out hb w hA).mono ?_
  rintro e w1 ⟨⟨v, rfl, hown⟩, hb1⟩
  obtain ⟨-, A1, k1, rfl, R1, hc1, hcm, hA1, hA2⟩ := RB.of_owns hown
  replace R1 := Lib.hid R1
  have hlt := fun (a : Addr) (ha : A1 = some a) => owned_lt hown (by rw [ha])
  have hE1 := Lib.hid (hErr.out.chg (Chg.of_below (S := fun k => w.heap.size ≤ k) hb1 (fun k _ h => h)) (by omega) (by omega))
  have hsz := hb1.size
  clear hown hA1 hA2 hcm
  go_wp2_with fail
  refine (zzSection64_short A1 l n k1 big w1 TE TU vE vU hE1 (by omega) hN hb hZ hc1 R1 hlt).mono ?_
  rintro e w2 ⟨⟨TX, vX, rfl⟩, hb2⟩
  have hbw : Hid (Below w.heap.size w w2) := Lib.hid (hb1.trans (hb2.mono hb1.size))
  have g2 := Lib.hid (heap_alloc_new w2 (.cells #[.int .u8 0, .int .u8 0, .int .u8 0, .int .u8 0, .int .u8 0, .int .u8 0, .int .u8 0, .int .u8 0, .int .u8 0, .int .u8 0, .int .u8 0, .int .u8 0, .int .u8 0, .int .u8 0, .int .u8 0, .int .u8 0, .int .u8 0, .int .u8 0, .int .u8 0, .int .u8 0, .int .u8 0, .int .u8 0, .int .u8 0, .int .u8 0, .int .u8 0, .int .u8 0, .int .u8 0, .int .u8 0, .int .u8 0, .int .u8 0, .int .u8 0, .int .u8 0, .int .u64 0, .int .u64 0, .int .u32 0, .int .u32 0, .int .u32 0, .int .u32 0, .int .u32 0, .int .u32 0, .int .u32 0, .int .u32 0] 94))
  go_wp2_with (refine wpList_store_self rfl 94 _ _ rfl w2.heap.size 94 #[.int .u8 0, .int .u8 0, .int .u8 0, .int .u8 0, .int .u8 0, .int .u8 0, .int .u8 0, .int .u8 0, .int .u8 0, .int .u8 0, .int .u8 0, .int .u8 0, .int .u8 0, .int .u8 0, .int .u8 0, .int .u8 0, .int .u8 0, .int .u8 0, .int .u8 0, .int .u8 0, .int .u8 0, .int .u8 0, .int .u8 0, .int .u8 0, .int .u8 0, .int .u8 0, .int .u8 0, .int .u8 0, .int .u8 0, .int .u8 0, .int .u8 0, .int .u8 0, .int .u64 0, .int .u64 0, .int .u32 0, .int .u32 0, .int .u32 0, .int .u32 0, .int .u32 0, .int .u32 0, .int .u32 0, .int .u32 0] rfl rfl g2.out (by kernel_rfl) (List.all_eq_true.1 rfl) ?_)
  refine bodyPost_ret (results_tmp4 rfl _ _) rfl ?_
  exact ⟨rfl, hbw.out.alloc hbw.out.size _⟩

/-- The numbers of Section32. -/
def nSection32 (big : Bool) (s : List UInt8) : List Nat := [num big ((s.drop 32).take 4), num big ((s.drop 36).take 4), num big ((s.drop 40).take 4), num big ((s.drop 44).take 4), num big ((s.drop 48).take 4), num big ((s.drop 52).take 4), num big ((s.drop 56).take 4), num big ((s.drop 60).take 4), num big ((s.drop 64).take 4)]
theorem nSection32_eq (big : Bool) (l : List UInt8) : nSection32 big (l.take 68) = numsOf big [-16, -16, 4, 4, 4, 4, 4, 4, 4, 4, 4] l := by
  simp [nSection32, numsOf, List.drop_take, List.take_take]

set_option maxRecDepth 100000 in
set_option maxHeartbeats 2000000 in
theorem implSection32_all (big : Bool) (A : Option Addr) (l : List UInt8) (n c : Nat) (hN : Hid (n = l.length)) (hb : n ≤ 2147483647) (hZ : 68 ≤ n) (w : World) (hA : RB w A l) (h3 : 3 ≤ w.heap.size) :
    Calls Tryd.prog 26 #[.bool false, .bool big, .slice A n c] w fun e w' => (∃ N0 k0 N1 k1 v, e = .returned (.tuple #[.slice N0 16 k0, .slice N1 16 k1, .slice v 9 9, .bool true]) ∧ Hid (RB w' N0 (l.take 16)) ∧ Hid (RB w' N1 ((l.drop 16).take 16)) ∧ Hid (RC w' v 1 9 ((nSection32 big (l.take 68)).map uv))) ∧ Below w.heap.size w w' := by
  obtain ⟨s, hS⟩ : ∃ s, l.take 68 = s := ⟨_, rfl⟩
  have hs : s.length = 68 := by rw [← hS]; have := hN.out; simp; omega
  have en0 : (l.take 16) = (s.take 16) := by rw [← hS]; simp [List.drop_take, List.take_take]
  have en1 : ((l.drop 16).take 16) = ((s.drop 16).take 16) := by rw [← hS]; simp [List.drop_take, List.take_take]
  rw [hS, en0, en1]
  have HS := Lib.hid hS
  have hsize := Lib.hid (sizeSection32 big s hs)
  have hinfo : (Tryd.prog.info? 98).map (·.size) = some 41 := by kernel_rfl
  obtain ⟨y0_0, y0_1, y0_2, y0_3, y0_4, y0_5, y0_6, y0_7, y0_8, y0_9, y0_10, y0_11, y0_12, y0_13, y0_14, y0_15, y1_0, y1_1, y1_2, y1_3, y1_4, y1_5, y1_6, y1_7, y1_8, y1_9, y1_10, y1_11, y1_12, y1_13, y1_14, y1_15, hy0, hy1, hrow⟩ := fSection32_row big s hs
  rw [hy0, hy1]
  replace hrow := Lib.hid hrow
  clear hS hs hy0 en0 hy1 en1
  replace hinfo := Lib.hid hinfo
  go_enter Tryd.func26, Tryd.ntmps26
  go_wp2_with fail
  refine (order_any big w).mono ?_
  rintro e w' ⟨rfl, rfl⟩
  go_wp2_with fail
  refine (copied_any A l n c hN.out hb w hA).mono ?_
  rintro e w1 ⟨⟨v, rfl, hown⟩, hb1⟩
  obtain ⟨-, A1, k1, rfl, R1, hc1, hcm, hA1, hA2⟩ := RB.of_owns hown
  replace R1 := Lib.hid R1
  have hsz1 := hb1.size
  clear hown hA1 hA2 hcm
  go_wp2_with fail
  refine (zzSection32_all A1 l n k1 big w1 hN hb hZ hc1 R1 (R1.out.ltA (by have := hN.out; omega)) (by omega)).mono ?_
  rintro e w2 ⟨rfl, hb2⟩
  rw [HS.out]
  have hbw : Hid (Below w.heap.size w w2) := Lib.hid (hb1.trans (hb2.mono hb1.size))
  have g2 := Lib.hid (heap_alloc_new w2 (.cells #[.int .u8 0, .int .u8 0, .int .u8 0, .int .u8 0, .int .u8 0, .int .u8 0, .int .u8 0, .int .u8 0, .int .u8 0, .int .u8 0, .int .u8 0, .int .u8 0, .int .u8 0, .int .u8 0, .int .u8 0, .int .u8 0, .int .u8 0, .int .u8 0, .int .u8 0, .int .u8 0, .int .u8 0, .int .u8 0, .int .u8 0, .int .u8 0, .int .u8 0, .int .u8 0, .int .u8 0, .int .u8 0, .int .u8 0, .int .u8 0, .int .u8 0, .int .u8 0, .int .u32 0, .int .u32 0, .int .u32 0, .int .u32 0, .int .u32 0, .int .u32 0, .int .u32 0, .int .u32 0, .int .u32 0] 98))
  have hrowW := (congrArg (fun x : World => x.heap[w2.heap.size]?) (World.setRow_alloc_new w2 #[.int .u8 0, .int .u8 0, .int .u8 0, .int .u8 0, .int .u8 0, .int .u8 0, .int .u8 0, .int .u8 0, .int .u8 0, .int .u8 0, .int .u8 0, .int .u8 0, .int .u8 0, .int .u8 0, .int .u8 0, .int .u8 0, .int .u8 0, .int .u8 0, .int .u8 0, .int .u8 0, .int .u8 0, .int .u8 0, .int .u8 0, .int .u8 0, .int .u8 0, .int .u8 0, .int .u8 0, .int .u8 0, .int .u8 0, .int .u8 0, .int .u8 0, .int .u8 0, .int .u32 0, .int .u32 0, .int .u32 0, .int .u32 0, .int .u32 0, .int .u32 0, .int .u32 0, .int .u32 0, .int .u32 0] (fSection32 big s).toArray 98)).trans (heap_alloc_new w2 _)
  replace hrowW := Lib.hid hrowW
  have Wr2 := wrap_num big (s.drop 32) 4 (by omega)
  have Wr3 := wrap_num big (s.drop 36) 4 (by omega)
  have Wr4 := wrap_num big (s.drop 40) 4 (by omega)
  have Wr5 := wrap_num big (s.drop 44) 4 (by omega)
  have Wr6 := wrap_num big (s.drop 48) 4 (by omega)
  have Wr7 := wrap_num big (s.drop 52) 4 (by omega)
  have Wr8 := wrap_num big (s.drop 56) 4 (by omega)
  have Wr9 := wrap_num big (s.drop 60) 4 (by omega)
  have Wr10 := wrap_num big (s.drop 64) 4 (by omega)
  have hb3 : Hid (Below w.heap.size w ((w2.alloc (.cells #[.int .u8 0, .int .u8 0, .int .u8 0, .int .u8 0, .int .u8 0, .int .u8 0, .int .u8 0, .int .u8 0, .int .u8 0, .int .u8 0, .int .u8 0, .int .u8 0, .int .u8 0, .int .u8 0, .int .u8 0, .int .u8 0, .int .u8 0, .int .u8 0, .int .u8 0, .int .u8 0, .int .u8 0, .int .u8 0, .int .u8 0, .int .u8 0, .int .u8 0, .int .u8 0, .int .u8 0, .int .u8 0, .int .u8 0, .int .u8 0, .int .u8 0, .int .u8 0, .int .u32 0, .int .u32 0, .int .u32 0, .int .u32 0, .int .u32 0, .int .u32 0, .int .u32 0, .int .u32 0, .int .u32 0] 98)).setRow w2.heap.size (fSection32 big s).toArray)) := Lib.hid (below_setRow (hbw.out.alloc hbw.out.size _) hbw.out.size _)
  have hl3 : w2.heap.size < ((w2.alloc (.cells #[.int .u8 0, .int .u8 0, .int .u8 0, .int .u8 0, .int .u8 0, .int .u8 0, .int .u8 0, .int .u8 0, .int .u8 0, .int .u8 0, .int .u8 0, .int .u8 0, .int .u8 0, .int .u8 0, .int .u8 0, .int .u8 0, .int .u8 0, .int .u8 0, .int .u8 0, .int .u8 0, .int .u8 0, .int .u8 0, .int .u8 0, .int .u8 0, .int .u8 0, .int .u8 0, .int .u8 0, .int .u8 0, .int .u8 0, .int .u8 0, .int .u8 0, .int .u8 0, .int .u32 0, .int .u32 0, .int .u32 0, .int .u32 0, .int .u32 0, .int .u32 0, .int .u32 0, .int .u32 0, .int .u32 0] 98)).setRow w2.heap.size (fSection32 big s).toArray).heap.size := by simp
  clear hb1 hb2 hsz1
  go_wp2_with (refine wpList_store_row rfl 98 _ _ rfl w2.heap.size 98 #[.int .u8 0, .int .u8 0, .int .u8 0, .int .u8 0, .int .u8 0, .int .u8 0, .int .u8 0, .int .u8 0, .int .u8 0, .int .u8 0, .int .u8 0, .int .u8 0, .int .u8 0, .int .u8 0, .int .u8 0, .int .u8 0, .int .u8 0, .int .u8 0, .int .u8 0, .int .u8 0, .int .u8 0, .int .u8 0, .int .u8 0, .int .u8 0, .int .u8 0, .int .u8 0, .int .u8 0, .int .u8 0, .int .u8 0, .int .u8 0, .int .u8 0, .int .u8 0, .int .u32 0, .int .u32 0, .int .u32 0, .int .u32 0, .int .u32 0, .int .u32 0, .int .u32 0, .int .u32 0, .int .u32 0] (fSection32 big s).toArray rfl rfl g2.out (by rw [hsize.out]; rfl) (by rw [hsize.out]; exact hinfo.out) (oneSection32 big _) ?_)
  generalize (w2.alloc (.cells #[.int .u8 0, .int .u8 0, .int .u8 0, .int .u8 0, .int .u8 0, .int .u8 0, .int .u8 0, .int .u8 0, .int .u8 0, .int .u8 0, .int .u8 0, .int .u8 0, .int .u8 0, .int .u8 0, .int .u8 0, .int .u8 0, .int .u8 0, .int .u8 0, .int .u8 0, .int .u8 0, .int .u8 0, .int .u8 0, .int .u8 0, .int .u8 0, .int .u8 0, .int .u8 0, .int .u8 0, .int .u8 0, .int .u8 0, .int .u8 0, .int .u8 0, .int .u8 0, .int .u32 0, .int .u32 0, .int .u32 0, .int .u32 0, .int .u32 0, .int .u32 0, .int .u32 0, .int .u32 0, .int .u32 0] 98)).setRow w2.heap.size (fSection32 big s).toArray = W3 at *
  clear g2
  generalize w2.heap.size = V at *
  replace hrowW := hrowW.out
  rw [hrow.out] at hrowW
  have c2 := World.cell?_of_row hrowW 32 (.int .u32 ((num big ((s.drop 32).take 4) : Nat) : Int)) rfl
  have c3 := World.cell?_of_row hrowW 33 (.int .u32 ((num big ((s.drop 36).take 4) : Nat) : Int)) rfl
  have c4 := World.cell?_of_row hrowW 34 (.int .u32 ((num big ((s.drop 40).take 4) : Nat) : Int)) rfl
  have c5 := World.cell?_of_row hrowW 35 (.int .u32 ((num big ((s.drop 44).take 4) : Nat) : Int)) rfl
  have c6 := World.cell?_of_row hrowW 36 (.int .u32 ((num big ((s.drop 48).take 4) : Nat) : Int)) rfl
  have c7 := World.cell?_of_row hrowW 37 (.int .u32 ((num big ((s.drop 52).take 4) : Nat) : Int)) rfl
  have c8 := World.cell?_of_row hrowW 38 (.int .u32 ((num big ((s.drop 56).take 4) : Nat) : Int)) rfl
  have c9 := World.cell?_of_row hrowW 39 (.int .u32 ((num big ((s.drop 60).take 4) : Nat) : Int)) rfl
  have c10 := World.cell?_of_row hrowW 40 (.int .u32 ((num big ((s.drop 64).take 4) : Nat) : Int)) rfl
  have nm0 := Lib.hid (RB.of_mid (pre := []) (post := [bv y1_0, bv y1_1, bv y1_2, bv y1_3, bv y1_4, bv y1_5, bv y1_6, bv y1_7, bv y1_8, bv y1_9, bv y1_10, bv y1_11, bv y1_12, bv y1_13, bv y1_14, bv y1_15, .int .u32 ((num big ((s.drop 32).take 4) : Nat) : Int), .int .u32 ((num big ((s.drop 36).take 4) : Nat) : Int), .int .u32 ((num big ((s.drop 40).take 4) : Nat) : Int), .int .u32 ((num big ((s.drop 44).take 4) : Nat) : Int), .int .u32 ((num big ((s.drop 48).take 4) : Nat) : Int), .int .u32 ((num big ((s.drop 52).take 4) : Nat) : Int), .int .u32 ((num big ((s.drop 56).take 4) : Nat) : Int), .int .u32 ((num big ((s.drop 60).take 4) : Nat) : Int), .int .u32 ((num big ((s.drop 64).take 4) : Nat) : Int)]) (l := [y0_0, y0_1, y0_2, y0_3, y0_4, y0_5, y0_6, y0_7, y0_8, y0_9, y0_10, y0_11, y0_12, y0_13, y0_14, y0_15]) hrowW rfl 0 rfl)
  have nm1 := Lib.hid (RB.of_mid (pre := [bv y0_0, bv y0_1, bv y0_2, bv y0_3, bv y0_4, bv y0_5, bv y0_6, bv y0_7, bv y0_8, bv y0_9, bv y0_10, bv y0_11, bv y0_12, bv y0_13, bv y0_14, bv y0_15]) (post := [.int .u32 ((num big ((s.drop 32).take 4) : Nat) : Int), .int .u32 ((num big ((s.drop 36).take 4) : Nat) : Int), .int .u32 ((num big ((s.drop 40).take 4) : Nat) : Int), .int .u32 ((num big ((s.drop 44).take 4) : Nat) : Int), .int .u32 ((num big ((s.drop 48).take 4) : Nat) : Int), .int .u32 ((num big ((s.drop 52).take 4) : Nat) : Int), .int .u32 ((num big ((s.drop 56).take 4) : Nat) : Int), .int .u32 ((num big ((s.drop 60).take 4) : Nat) : Int), .int .u32 ((num big ((s.drop 64).take 4) : Nat) : Int)]) (l := [y1_0, y1_1, y1_2, y1_3, y1_4, y1_5, y1_6, y1_7, y1_8, y1_9, y1_10, y1_11, y1_12, y1_13, y1_14, y1_15]) hrowW rfl 16 rfl)
  have hrA := Lib.hid hrowW
  clear hrowW
  go_region_held3 (fun w' => w'.cell? ⟨V, 32, none⟩ = some (.int .u32 ((num big ((s.drop 32).take 4) : Nat) : Int)) ∧ w'.cell? ⟨V, 33, none⟩ = some (.int .u32 ((num big ((s.drop 36).take 4) : Nat) : Int)) ∧ w'.cell? ⟨V, 34, none⟩ = some (.int .u32 ((num big ((s.drop 40).take 4) : Nat) : Int)) ∧ w'.cell? ⟨V, 35, none⟩ = some (.int .u32 ((num big ((s.drop 44).take 4) : Nat) : Int)) ∧ w'.cell? ⟨V, 36, none⟩ = some (.int .u32 ((num big ((s.drop 48).take 4) : Nat) : Int)) ∧ w'.cell? ⟨V, 37, none⟩ = some (.int .u32 ((num big ((s.drop 52).take 4) : Nat) : Int)) ∧ w'.cell? ⟨V, 38, none⟩ = some (.int .u32 ((num big ((s.drop 56).take 4) : Nat) : Int)) ∧ w'.cell? ⟨V, 39, none⟩ = some (.int .u32 ((num big ((s.drop 60).take 4) : Nat) : Int)) ∧ w'.cell? ⟨V, 40, none⟩ = some (.int .u32 ((num big ((s.drop 64).take 4) : Nat) : Int))) (first | exact ⟨c2, c3, c4, c5, c6, c7, c8, c9, c10⟩ | exact ⟨World.cell?_of_row hrA.out 32 _ rfl, World.cell?_of_row hrA.out 33 _ rfl, World.cell?_of_row hrA.out 34 _ rfl, World.cell?_of_row hrA.out 35 _ rfl, World.cell?_of_row hrA.out 36 _ rfl, World.cell?_of_row hrA.out 37 _ rfl, World.cell?_of_row hrA.out 38 _ rfl, World.cell?_of_row hrA.out 39 _ rfl, World.cell?_of_row hrA.out 40 _ rfl⟩ | go_keep)
    (first | (go_at_call 30; refine (copied_any (some ⟨V, 0, none⟩) [y0_0, y0_1, y0_2, y0_3, y0_4, y0_5, y0_6, y0_7, y0_8, y0_9, y0_10, y0_11, y0_12, y0_13, y0_14, y0_15] 16 16 rfl (by omega) _ (by first | exact nm0.out | exact nm0.out.later ((Below.refl _ _).alloc (Nat.le_refl _) _))).mono ?_; rintro e wA ⟨⟨vA, rfl, hownA⟩, hbA⟩; obtain ⟨-, NA, kA, rfl, RA, -, -, -, -⟩ := RB.of_owns hownA; replace RA := Lib.hid RA; (try replace hbA := Below.undrew hbA); (first | (replace hrA := row_later hbA hrA) | (replace hrA := row_later hbA (row_alloc hrA _)))) | (go_at_call 30; refine (copied_any (some ⟨V, 16, none⟩) [y1_0, y1_1, y1_2, y1_3, y1_4, y1_5, y1_6, y1_7, y1_8, y1_9, y1_10, y1_11, y1_12, y1_13, y1_14, y1_15] 16 16 rfl (by omega) _ (by first | exact nm1.out | exact nm1.out.later ((Below.refl _ _).alloc (Nat.le_refl _) _) | exact nm1.out.later hbA | exact (nm1.out.later hbA).later ((Below.refl _ _).alloc (Nat.le_refl _) _) | exact (nm1.out.later ((Below.refl _ _).alloc (Nat.le_refl _) _)).later hbA)).mono ?_; rintro e wB ⟨⟨vB, rfl, hownB⟩, hbB⟩; obtain ⟨-, NB, kB, rfl, RB, -, -, -, -⟩ := RB.of_owns hownB; replace RB := Lib.hid RB; (try replace hbB := Below.undrew hbB); (first | (replace hrA := row_later hbB hrA) | (replace hrA := row_later hbB (row_alloc hrA _)))) )
  all_goals
    have hz3 := hb3.out.size
    have hzA := hbA.size
    try simp at hzA
    have hzB := hbB.size
    try simp at hzB
    go_wp2
    refine bodyPost_ret (results_tmp4 rfl _ _) rfl ?_
    refine ⟨⟨_, _, _, _, _, rfl, Lib.hid ?_, Lib.hid ?_, Lib.hid ?_⟩, ?_⟩
    · (first | exact RA.out | exact RA.out.later ((Below.refl _ _).alloc (Nat.le_refl _) _) | exact RA.out.later hbB | exact (RA.out.later ((Below.refl _ _).alloc (Nat.le_refl _) _)).later hbB | exact (RA.out.later hbB).later ((Below.refl _ _).alloc (Nat.le_refl _) _))
    · (first | exact RB.out | exact RB.out.later ((Below.refl _ _).alloc (Nat.le_refl _) _) | exact RB.out.later hbB | exact (RB.out.later ((Below.refl _ _).alloc (Nat.le_refl _) _)).later hbB | exact (RB.out.later hbB).later ((Below.refl _ _).alloc (Nat.le_refl _) _))
    · (first | exact (rc_new (vs := (nSection32 big s).map uv) rfl (by simp [nSection32])) | exact (rc_new (vs := (nSection32 big s).map uv) rfl (by simp [nSection32])).later hbA | exact (rc_new (vs := (nSection32 big s).map uv) rfl (by simp [nSection32])).later hbB | exact ((rc_new (vs := (nSection32 big s).map uv) rfl (by simp [nSection32])).later hbA).later hbB)
    · (repeat (first | exact hb3.out | refine Below.drew ?_ | refine Below.alloc ?_ (by first | omega | (simp; omega)) _ | refine Below.trans ?_ (hbA.mono (by first | omega | (simp; omega))) | refine Below.trans ?_ (hbB.mono (by first | omega | (simp; omega))) ))

set_option maxRecDepth 100000 in
set_option maxHeartbeats 1000000 in
theorem implSection32_short (big : Bool) (A : Option Addr) (l : List UInt8) (n c : Nat) (hN : Hid (n = l.length)) (hb : n ≤ 2147483647) (hZ : n < 68) (w : World) (hA : RB w A l) (TE TU : TypeId) (vE vU : Value) (hErr : Hid (ErrsAt w TE TU vE vU)) (h3 : 3 ≤ w.heap.size) :
    Calls Tryd.prog 26 #[.bool false, .bool big, .slice A n c] w fun e w' => e = .returned (.tuple #[.slice none 0 0, .slice none 0 0, .slice none 0 0, .bool false]) ∧ Below w.heap.size w w' := by
  go_enter Tryd.func26, Tryd.ntmps26
  go_wp2_with fail
  refine (order_any big w).mono ?_
  rintro e w' ⟨rfl, rfl⟩
  go_wp2_with fail
  refine (copied_any A l n c hN.out hb w hA).mono ?_
  rintro e w1 ⟨⟨v, rfl, hown⟩, hb1⟩
  obtain ⟨-, A1, k1, rfl, R1, hc1, hcm, hA1, hA2⟩ := RB.of_owns hown
  replace R1 := Lib.hid R1
  have hlt := fun (a : Addr) (ha : A1 = some a) => owned_lt hown (by rw [ha])
  have hE1 := Lib.hid (hErr.out.chg (Chg.of_below (S := fun k => w.heap.size ≤ k) hb1 (fun k _ h => h)) (by omega) (by omega))
  have hsz := hb1.size
  clear hown hA1 hA2 hcm
  go_wp2_with fail
  refine (zzSection32_short A1 l n k1 big w1 TE TU vE vU hE1 (by omega) hN hb hZ hc1 R1 hlt).mono ?_
  rintro e w2 ⟨⟨TX, vX, rfl⟩, hb2⟩
  have hbw : Hid (Below w.heap.size w w2) := Lib.hid (hb1.trans (hb2.mono hb1.size))
  have g2 := Lib.hid (heap_alloc_new w2 (.cells #[.int .u8 0, .int .u8 0, .int .u8 0, .int .u8 0, .int .u8 0, .int .u8 0, .int .u8 0, .int .u8 0, .int .u8 0, .int .u8 0, .int .u8 0, .int .u8 0, .int .u8 0, .int .u8 0, .int .u8 0, .int .u8 0, .int .u8 0, .int .u8 0, .int .u8 0, .int .u8 0, .int .u8 0, .int .u8 0, .int .u8 0, .int .u8 0, .int .u8 0, .int .u8 0, .int .u8 0, .int .u8 0, .int .u8 0, .int .u8 0, .int .u8 0, .int .u8 0, .int .u32 0, .int .u32 0, .int .u32 0, .int .u32 0, .int .u32 0, .int .u32 0, .int .u32 0, .int .u32 0, .int .u32 0] 98))
  go_wp2_with (refine wpList_store_self rfl 98 _ _ rfl w2.heap.size 98 #[.int .u8 0, .int .u8 0, .int .u8 0, .int .u8 0, .int .u8 0, .int .u8 0, .int .u8 0, .int .u8 0, .int .u8 0, .int .u8 0, .int .u8 0, .int .u8 0, .int .u8 0, .int .u8 0, .int .u8 0, .int .u8 0, .int .u8 0, .int .u8 0, .int .u8 0, .int .u8 0, .int .u8 0, .int .u8 0, .int .u8 0, .int .u8 0, .int .u8 0, .int .u8 0, .int .u8 0, .int .u8 0, .int .u8 0, .int .u8 0, .int .u8 0, .int .u8 0, .int .u32 0, .int .u32 0, .int .u32 0, .int .u32 0, .int .u32 0, .int .u32 0, .int .u32 0, .int .u32 0, .int .u32 0] rfl rfl g2.out (by kernel_rfl) (List.all_eq_true.1 rfl) ?_)
  refine bodyPost_ret (results_tmp4 rfl _ _) rfl ?_
  exact ⟨rfl, hbw.out.alloc hbw.out.size _⟩

set_option maxRecDepth 100000 in
set_option maxHeartbeats 1000000 in
theorem lawSection64 (a0 : Bool) (a1 : Option Addr) (len1 cap1 : Nat) (l : List UInt8) (w : World) (hN : Hid (len1 = l.length)) (hr : RB w a1 l) (hc : len1 ≤ cap1) (hb : len1 ≤ 1048576) (TE TU : TypeId) (vE vU : Value) (hE : Hid (ErrsAt w TE TU vE vU)) (h3 : 3 ≤ w.heap.size) :
    Calls Tryd.prog 11 #[.bool true, .bool a0, .slice a1 len1 cap1] w fun e w' => e = .returned (.bool true) ∧ Below w.heap.size w w' := by
  have hff := fieldsOf_all a0 [-16, -16, 8, 8, 4, 4, 4, 4, 4, 4, 4, 4] l
  have hwid : widthOf [-16, -16, 8, 8, 4, 4, 4, 4, 4, 4, 4, 4] = 80 := rfl
  rw [hwid] at hff
  clear hwid
  by_cases hZ : 80 ≤ len1
  · rw [if_neg (by have := hN.out; omega), ← nSection64_eq] at hff
    replace hff := Lib.hid hff
    go_enter Tryd.func11, Tryd.ntmps11
    go_wp2_with fail
    refine (implSection64_all a0 a1 l len1 cap1 hN (by omega) hZ w hr h3).mono ?_
    rintro e w1 ⟨⟨N0, k0, N1, k1, v, rfl, RN0, RN1, R1⟩, b1⟩
    go_wp2_with fail
    refine (machoSection_true w1).mono ?_
    rintro e w2 ⟨⟨B, dB, rfl, R2⟩, b2⟩
    have R1' := Lib.hid (R1.out.later b2)
    have b12 := Lib.hid (b1.trans (b2.mono b1.size))
    have A2 := Lib.hid (hr.later b12.out)
    replace b2 := Lib.hid b2
    replace b1 := Lib.hid b1
    clear R1
    go_wp2_with fail
    refine (fields_any a0 a1 B l [-16, -16, 8, 8, 4, 4, 4, 4, 4, 4, 4, 4] len1 cap1 12 dB hN hc (by omega) (Lib.hid (by simp)) (by omega) (Lib.hid (by decide)) w2 A2 (Lib.hid R2)).mono ?_
    rintro e w3 ⟨h | ⟨r, v3, e3, rfl, own3⟩, b3⟩
    · rw [hff.out] at h; cases h.1
    obtain rfl := Option.some.inj (hff.out.symm.trans e3)
    obtain ⟨C, d3, rfl, R3, -, -⟩ := RC.of_owns own3
    have R1'' := R1'.out.later b3
    have b13 := Lib.hid (b12.out.trans (b3.mono b12.out.size))
    have b23 := Lib.hid (b2.out.trans (b3.mono b2.out.size))
    have A3 := Lib.hid (A2.out.later b3)
    have eK : (nSection64 a0 (l.take 80)).length = 10 := rfl
    rw [eK] at R3 ⊢
    clear own3 e3 b3 R1' b12 A2 R2 hff b1 b2
    replace R1'' := Lib.hid R1''
    replace R3 := Lib.hid R3
    have RN0' := Lib.hid (RN0.out.later b23.out)
    have hcv0 := fun q => run_conv_RB (P := Tryd.prog) (w := w3.drewN q) Tryd.underlying22 Tryd.underlying5 Tryd.underlying9 (RN0'.out.drewN q) (n := 16) (c := k0) (by have := hN.out; simp; omega)
    have RN1' := Lib.hid (RN1.out.later b23.out)
    have hcv1 := fun q => run_conv_RB (P := Tryd.prog) (w := w3.drewN q) Tryd.underlying22 Tryd.underlying5 Tryd.underlying9 (RN1'.out.drewN q) (n := 16) (c := k1) (by have := hN.out; simp; omega)
    have hsl : ∀ W, (Instr.slice 22 (.slice a1 len1 cap1) none (some (.int .i64 32)) none).run Tryd.prog W = .ok (.slice a1 32 cap1) W := fun W => run_slice_to (P := Tryd.prog) Tryd.underlying22 (info_parts Tryd.infoByte).choose_spec.1 a1 len1 cap1 32 (by omega) W
    have hcvb := fun q => run_conv_RB (P := Tryd.prog) (w := w3.drewN q) Tryd.underlying22 Tryd.underlying5 Tryd.underlying9 ((A3.out.take 32).drewN q) (n := 32) (c := cap1) (by have := hN.out; simp; omega)
    go_wp2_with fail
    go_quiet ((go_at_call 15; exact Calls.quiet_of (same_yes v C 10 10 d3 (nSection64 a0 (l.take 80)) _ (by omega) R1''.out R3.out)))
    go_wp2
    go_ret
    exact ⟨ret_bool (by rw [bytes_append]; simp [go_sem]; exact (List.take_add (i := 16) (j := 16)).symm), below_drewN b13.out _⟩
  · rw [if_pos (by have := hN.out; omega)] at hff
    replace hff := Lib.hid hff
    go_enter Tryd.func11, Tryd.ntmps11
    go_wp2_with fail
    refine (implSection64_short a0 a1 l len1 cap1 hN (by omega) (by omega) w hr TE TU vE vU hE h3).mono ?_
    rintro e w1 ⟨rfl, b1⟩
    go_wp2_with fail
    refine (machoSection_true w1).mono ?_
    rintro e w2 ⟨⟨B, dB, rfl, R2⟩, b2⟩
    have b12 := Lib.hid (b1.trans (b2.mono b1.size))
    have A2 := Lib.hid (hr.later b12.out)
    clear b1 b2
    go_wp2_with fail
    refine (fields_any a0 a1 B l [-16, -16, 8, 8, 4, 4, 4, 4, 4, 4, 4, 4] len1 cap1 12 dB hN hc (by omega) (Lib.hid (by simp)) (by omega) (Lib.hid (by decide)) w2 A2 (Lib.hid R2)).mono ?_
    rintro e w3 ⟨⟨-, rfl⟩ | ⟨r, v3, e3, -, -⟩, b3⟩
    · have b13 := Lib.hid (b12.out.trans (b3.mono b12.out.size))
      clear b3 b12 A2 R2 hff
      go_wp2_with fail
      go_quiet ((go_at_call 15; exact Calls.quiet_of (same_yes none none 0 0 0 [] _ (by omega) (rc_none _) (rc_none _))))
      go_wp2
      go_ret
      exact ⟨rfl, below_drewN b13.out _⟩
    · rw [hff.out] at e3; cases e3

set_option maxRecDepth 100000 in
set_option maxHeartbeats 1000000 in
theorem lawSection32 (a0 : Bool) (a1 : Option Addr) (len1 cap1 : Nat) (l : List UInt8) (w : World) (hN : Hid (len1 = l.length)) (hr : RB w a1 l) (hc : len1 ≤ cap1) (hb : len1 ≤ 1048576) (TE TU : TypeId) (vE vU : Value) (hE : Hid (ErrsAt w TE TU vE vU)) (h3 : 3 ≤ w.heap.size) :
    Calls Tryd.prog 11 #[.bool false, .bool a0, .slice a1 len1 cap1] w fun e w' => e = .returned (.bool true) ∧ Below w.heap.size w w' := by
  have hff := fieldsOf_all a0 [-16, -16, 4, 4, 4, 4, 4, 4, 4, 4, 4] l
  have hwid : widthOf [-16, -16, 4, 4, 4, 4, 4, 4, 4, 4, 4] = 68 := rfl
  rw [hwid] at hff
  clear hwid
  by_cases hZ : 68 ≤ len1
  · rw [if_neg (by have := hN.out; omega), ← nSection32_eq] at hff
    replace hff := Lib.hid hff
    go_enter Tryd.func11, Tryd.ntmps11
    go_wp2_with fail
    refine (implSection32_all a0 a1 l len1 cap1 hN (by omega) hZ w hr h3).mono ?_
    rintro e w1 ⟨⟨N0, k0, N1, k1, v, rfl, RN0, RN1, R1⟩, b1⟩
    go_wp2_with fail
    refine (machoSection_false w1).mono ?_
    rintro e w2 ⟨⟨B, dB, rfl, R2⟩, b2⟩
    have R1' := Lib.hid (R1.out.later b2)
    have b12 := Lib.hid (b1.trans (b2.mono b1.size))
    have A2 := Lib.hid (hr.later b12.out)
    replace b2 := Lib.hid b2
    replace b1 := Lib.hid b1
    clear R1
    go_wp2_with fail
    refine (fields_any a0 a1 B l [-16, -16, 4, 4, 4, 4, 4, 4, 4, 4, 4] len1 cap1 11 dB hN hc (by omega) (Lib.hid (by simp)) (by omega) (Lib.hid (by decide)) w2 A2 (Lib.hid R2)).mono ?_
    rintro e w3 ⟨h | ⟨r, v3, e3, rfl, own3⟩, b3⟩
    · rw [hff.out] at h; cases h.1
    obtain rfl := Option.some.inj (hff.out.symm.trans e3)
    obtain ⟨C, d3, rfl, R3, -, -⟩ := RC.of_owns own3
    have R1'' := R1'.out.later b3
    have b13 := Lib.hid (b12.out.trans (b3.mono b12.out.size))
    have b23 := Lib.hid (b2.out.trans (b3.mono b2.out.size))
    have A3 := Lib.hid (A2.out.later b3)
    have eK : (nSection32 a0 (l.take 68)).length = 9 := rfl
    rw [eK] at R3 ⊢
    clear own3 e3 b3 R1' b12 A2 R2 hff b1 b2
    replace R1'' := Lib.hid R1''
    replace R3 := Lib.hid R3
    have RN0' := Lib.hid (RN0.out.later b23.out)
    have hcv0 := fun q => run_conv_RB (P := Tryd.prog) (w := w3.drewN q) Tryd.underlying22 Tryd.underlying5 Tryd.underlying9 (RN0'.out.drewN q) (n := 16) (c := k0) (by have := hN.out; simp; omega)
    have RN1' := Lib.hid (RN1.out.later b23.out)
    have hcv1 := fun q => run_conv_RB (P := Tryd.prog) (w := w3.drewN q) Tryd.underlying22 Tryd.underlying5 Tryd.underlying9 (RN1'.out.drewN q) (n := 16) (c := k1) (by have := hN.out; simp; omega)
    have hsl : ∀ W, (Instr.slice 22 (.slice a1 len1 cap1) none (some (.int .i64 32)) none).run Tryd.prog W = .ok (.slice a1 32 cap1) W := fun W => run_slice_to (P := Tryd.prog) Tryd.underlying22 (info_parts Tryd.infoByte).choose_spec.1 a1 len1 cap1 32 (by omega) W
    have hcvb := fun q => run_conv_RB (P := Tryd.prog) (w := w3.drewN q) Tryd.underlying22 Tryd.underlying5 Tryd.underlying9 ((A3.out.take 32).drewN q) (n := 32) (c := cap1) (by have := hN.out; simp; omega)
    go_wp2_with fail
    go_quiet ((go_at_call 15; exact Calls.quiet_of (same_yes v C 9 9 d3 (nSection32 a0 (l.take 68)) _ (by omega) R1''.out R3.out)))
    go_wp2
    go_ret
    exact ⟨ret_bool (by rw [bytes_append]; simp [go_sem]; exact (List.take_add (i := 16) (j := 16)).symm), below_drewN b13.out _⟩
  · rw [if_pos (by have := hN.out; omega)] at hff
    replace hff := Lib.hid hff
    go_enter Tryd.func11, Tryd.ntmps11
    go_wp2_with fail
    refine (implSection32_short a0 a1 l len1 cap1 hN (by omega) (by omega) w hr TE TU vE vU hE h3).mono ?_
    rintro e w1 ⟨rfl, b1⟩
    go_wp2_with fail
    refine (machoSection_false w1).mono ?_
    rintro e w2 ⟨⟨B, dB, rfl, R2⟩, b2⟩
    have b12 := Lib.hid (b1.trans (b2.mono b1.size))
    have A2 := Lib.hid (hr.later b12.out)
    clear b1 b2
    go_wp2_with fail
    refine (fields_any a0 a1 B l [-16, -16, 4, 4, 4, 4, 4, 4, 4, 4, 4] len1 cap1 11 dB hN hc (by omega) (Lib.hid (by simp)) (by omega) (Lib.hid (by decide)) w2 A2 (Lib.hid R2)).mono ?_
    rintro e w3 ⟨⟨-, rfl⟩ | ⟨r, v3, e3, -, -⟩, b3⟩
    · have b13 := Lib.hid (b12.out.trans (b3.mono b12.out.size))
      clear b3 b12 A2 R2 hff
      go_wp2_with fail
      go_quiet ((go_at_call 15; exact Calls.quiet_of (same_yes none none 0 0 0 [] _ (by omega) (rc_none _) (rc_none _))))
      go_wp2
      go_ret
      exact ⟨rfl, below_drewN b13.out _⟩
    · rw [hff.out] at e3; cases e3

set_option maxRecDepth 100000 in
set_option maxHeartbeats 1000000 in
theorem law_FnMachoSection (a0 a1 : Bool) (a2 : Option Addr) (len2 cap2 : Nat) (z2 : List Int) (w : World) (w2 : IsRow .u8 w a2 len2 cap2 z2) (TE TU : TypeId) (vE vU : Value) (hErr : ErrsAt w TE TU vE vU) (h3 : 3 ≤ w.heap.size) :
    Calls Tryd.prog 11 #[.bool a0, .bool a1, .slice a2 len2 cap2] w fun e w' => e = .returned (.bool true) ∧ Below w.heap.size w w' := by
  obtain ⟨l, hl, hr, hc, hm⟩ := w2.bytes
  have hN := Lib.hid hl
  have hE := Lib.hid hErr
  clear hl w2 hm hErr
  by_cases hb : len2 ≤ 1048576
  ·
    cases a0
    · exact lawSection32 a1 a2 len2 cap2 l w hN hr hc hb TE TU vE vU hE h3
    · exact lawSection64 a1 a2 len2 cap2 l w hN hr hc hb TE TU vE vU hE h3
  · have hb1 : Hid (1048576 < len2) := Lib.hid (by omega)
    by_cases hb2 : len2 ≤ 2147483647
    · go_enter Tryd.func11, Tryd.ntmps11
      go_wp2
      go_ret
      exact ⟨rfl, Below.refl _ _⟩
    · go_enter Tryd.func11, Tryd.ntmps11
      go_wp2
      go_ret
      exact ⟨rfl, Below.refl _ _⟩

end Go.Proofs.YtcdknbclhdllkaaDoor
