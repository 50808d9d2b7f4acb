/-
  The reference's table of symbols: the contract of Coffs.
-/
import Derived.Test.YthnlimhpnonnmaaDoorRRRPeSyms4
import Derived.Test.YthnlimhpnonnmaaDoorRRRPeRelocsLaw
namespace Go.Proofs.YthnlimhpnonnmaaDoorRRR
set_option linter.unusedVariables false
set_option linter.unusedSimpArgs false
open Go Go.RowKit
attribute [local go_sem ↓] Go.wp_at_zero Go.wp_at_succ

theorem Tryd.infoSCoff : (Tryd.prog.info? 38).map (fun i => (i.zero, i.size, i.bytes)) = some (some (.agg #[.slice none 0 0, .int .u32 0, .int .i16 0, .int .u16 0, .int .u8 0, .int .u8 0]), 6, 40) := by kernel_rfl

theorem blk_at (l : List UInt8) (place k : Nat) : (l.drop (place + 18 * k)).take 18 = blk (l.drop place) k := by simp [blk, List.drop_drop]

set_option maxHeartbeats 1000000 in
theorem specSymbols_zero (place n : Nat) (A : Option Addr) (len c : Nat) (w : World) (hz : place = 0 ∨ n = 0) :
    Calls Tryd.prog 23 #[.int .u32 place, .int .u32 n, .slice A len c] w fun e w' => e = .returned (.tuple #[.slice (some ⟨w.heap.size, 0, none⟩) 0 0, .bool true]) ∧ Below w.heap.size w w' := by
  by_cases h0 : place = 0
  · subst h0
    clear hz
    go_enter Tryd.func23, Tryd.ntmps23
    go_wp2
    go_ret2
    exact ⟨rfl, (Below.refl _ _).alloc (Nat.le_refl _) _⟩
  · obtain rfl : n = 0 := by omega
    have hp0 : ((place : Int) == 0) = false := by rw [beq_eq_false_iff_ne]; omega
    clear hz
    go_enter Tryd.func23, Tryd.ntmps23
    go_wp2
    go_ret2
    exact ⟨rfl, (Below.refl _ _).alloc (Nat.le_refl _) _⟩

set_option maxRecDepth 100000 in
set_option maxHeartbeats 1000000 in
theorem specSymbols_short (place n : Nat) (A : Option Addr) (l : List UInt8) (len c : Nat) (w : World) (hpl0 : 0 < place) (hpl : place ≤ 4294967295) (hn : 0 < n) (hn' : n ≤ 65535) (hN : Hid (len = l.length)) (hb : len ≤ 2147483647) (hpos : Hid (l.length < place + 18 * n)) :
    Calls Tryd.prog 23 #[.int .u32 place, .int .u32 n, .slice A len c] w fun e w' => e = .returned (.tuple #[.slice none 0 0, .bool false]) ∧ Below w.heap.size w w' := by
  have q1 : IntKind.u64.wrap (place : Int) = (place : Int) := IntWalk.u64_in _ (by omega)
  have q2 : IntKind.u64.wrap (n : Int) = (n : Int) := IntWalk.u64_in _ (by omega)
  have q3 : IntKind.u64.wrap (18 * (n : Int)) = 18 * (n : Int) := IntWalk.u64_in _ (by omega)
  have q4 : IntKind.u64.wrap ((place : Int) + 18 * (n : Int)) = (place : Int) + 18 * (n : Int) := IntWalk.u64_in _ (by omega)
  have q5 : IntKind.u64.wrap (len : Int) = (len : Int) := IntWalk.u64_in _ (by omega)
  have hp0 : ((place : Int) == 0) = false := by rw [beq_eq_false_iff_ne]; omega
  have hn0 : ((n : Int) == 0) = false := by rw [beq_eq_false_iff_ne]; omega
  have hlt : (len : Int) < (place : Int) + 18 * (n : Int) := by have := hN.out; have := hpos.out; omega
  go_enter Tryd.func23, Tryd.ntmps23
  go_wp2
  go_ret2
  exact ⟨rfl, (Below.refl _ _).alloc (Nat.le_refl _) _⟩

set_option maxRecDepth 100000 in
set_option maxHeartbeats 8000000 in
theorem specSymbols_all (place n : Nat) (A : Option Addr) (l : List UInt8) (len c : Nat) (w : World) (hpl0 : 0 < place) (hpl : place ≤ 4294967295) (hn : 0 < n) (hn' : n ≤ 65535) (hN : Hid (len = l.length)) (hc : len ≤ c) (hb : len ≤ 2147483647) (hA : Hid (RB w A l)) (hpos : Hid (place + 18 * n ≤ l.length)) :
    Calls Tryd.prog 23 #[.int .u32 place, .int .u32 n, .slice A len c] w fun e w' => (∃ v vs, e = .returned (.tuple #[v, .bool true]) ∧ Hid (w'.ownsRow w.heap.size 38 6 v n vs) ∧ Hid (Recs IsCoff w' 6 n vs (symSt (l.drop place) n).1)) ∧ Below w.heap.size w w' := by
  obtain ⟨i0, hi, hz0, hz1, hz2⟩ := info_parts Tryd.infoSCoff
  have hinfo : (Tryd.prog.info? 38).map (·.size) = some 6 := by kernel_rfl
  replace hinfo := Lib.hid hinfo
  have hp := hpos.out
  have hl := hN.out
  have q1 : IntKind.u64.wrap (place : Int) = (place : Int) := IntWalk.u64_in _ (by omega)
  have q2 : IntKind.u64.wrap (n : Int) = (n : Int) := IntWalk.u64_in _ (by omega)
  have q3 : IntKind.u64.wrap (18 * (n : Int)) = 18 * (n : Int) := IntWalk.u64_in _ (by omega)
  have q4 : IntKind.u64.wrap ((place : Int) + 18 * (n : Int)) = (place : Int) + 18 * (n : Int) := IntWalk.u64_in _ (by omega)
  have q5 : IntKind.u64.wrap (len : Int) = (len : Int) := IntWalk.u64_in _ (by omega)
  have hp0 : ((place : Int) == 0) = false := by rw [beq_eq_false_iff_ne]; omega
  have hn0 : ((n : Int) == 0) = false := by rw [beq_eq_false_iff_ne]; omega
  have hlt : ¬ ((len : Int) < (place : Int) + 18 * (n : Int)) := by omega
  have hpn : place + 18 * n ≤ len := by omega
  clear hp hl
  go_enter Tryd.func23, Tryd.ntmps23
  go_wp2
  go_loopw [8, 9, 31] (fun v m i wr => ∃ (k : Nat) (vs : List Value), k ≤ n ∧ i = .int .u32 k ∧ m = .int .i64 ((symSt (l.drop place) k).2 : Int) ∧ Hid (wr.ownsRow w.heap.size 38 6 v k vs) ∧ Hid (Recs IsCoff wr 6 k vs (symSt (l.drop place) k).1) ∧ Hid (Below w.heap.size w wr)) (fun _ _ i _ => n - (intOf i).toNat)
  case atStart => exact ⟨0, [], Nat.zero_le _, rfl, rfl, Lib.hid (World.ownsRow_made w #[] 0 (Nat.le_refl _) (by simp [maxLen]) (by simp)), Lib.hid (Recs.nil _ _ _), Lib.hid ((Below.refl _ _).alloc (Nat.le_refl _) _)⟩
  case round =>
    obtain ⟨k, vs, hk, rfl, rfl, hown, hrec, hbl⟩ := hrel
    have hz := hbl.out.size
    by_cases hkn : k < n
    · have q8 : IntKind.u32.wrap (18 * (k : Int)) = 18 * (k : Int) := IntWalk.u32_in _ (by omega)
      have q9 : IntKind.u32.wrap ((place : Int) + 18 * (k : Int)) = (place : Int) + 18 * (k : Int) := IntWalk.u32_in _ (by omega)
      have hki : (k : Int) < (n : Int) := by omega
      have hsl : ∀ W, (Instr.slice 22 (.slice A len c) (some (.int .u32 ((place : Int) + 18 * (k : Int)))) none none).run Tryd.prog W = .ok (.slice (slA A c (place + 18 * k)) (len - (place + 18 * k)) (c - (place + 18 * k))) W := fun W => by
        rw [show ((place : Int) + 18 * (k : Int)) = ((place + 18 * k : Nat) : Int) by omega]
        exact run_slice_from (P := Tryd.prog) Tryd.underlying22 (info_parts Tryd.infoByte).choose_spec.1 (info_parts Tryd.infoByte).choose_spec.2.2.1 A len c (place + 18 * k) .u32 (by omega) W
      have Ak := Lib.hid ((hA.out.later hbl.out).drop (c := c) (by have := hN.out; omega) (place + 18 * k))
      have hN2 := Lib.hid (show len - (place + 18 * k) = (l.drop (place + 18 * k)).length by rw [List.length_drop, ← hN.out])
      have hcl : len - (place + 18 * k) ≤ c - (place + 18 * k) := by omega
      have hblk := Lib.hid (blk_at l place k)
      by_cases haux : (symSt (l.drop place) k).2 = 0
      · have hbit := Lib.hid (symSt_zero haux)
        have hm : ((symSt (l.drop place) k).2 : Int) = 0 := by omega
        have CALL := Lib.hid (slot_sym (slA A c (place + 18 * k)) (l.drop (place + 18 * k)) (len - (place + 18 * k)) (c - (place + 18 * k)) hN2 hcl (by omega) (by omega) wr Ak)
        have hm1 : IntKind.i64.wrap (((symSt (l.drop place) k).2 : Int) - 1) = ((symSt (l.drop place) k).2 : Int) - 1 := IntWalk.i64_in _ (by have := symSt_lt (l.drop place) k; omega)
        have hlt := symSt_lt (l.drop place) k
        rw [haux]
        go_wp2_with fail
        refine CALL.out.mono ?_
        rintro e w4 ⟨⟨cv, rfl, hcv⟩, b5⟩
        rw [hblk.out] at hcv
        obtain ⟨NA, kA, rfl, h8', RA⟩ := hcv
        replace h8' := Lib.hid h8'
        have hz4 := b5.size
        obtain ⟨⟨nm, x1, x2, x3, x4, x5⟩, hcc⟩ : ∃ cc, coffL (blk (l.drop place) k) = cc := ⟨_, rfl⟩
        rw [hcc] at RA h8' ⊢
        have hx5 : x5 = ((auxN (blk (l.drop place) k) : Nat) : Int) := by have := congrArg CoffL.aux hcc; exact this.symm
        have hx6 := auxN_lt (blk (l.drop place) k)
        have hx7 : IntKind.i64.wrap x5 = x5 := IntWalk.i64_in _ (by omega)
        replace hcc := Lib.hid hcc
        replace hx5 := Lib.hid hx5
        clear hx6
        simp only [symTail] at RA ⊢
        have own2 := Lib.hid (((owns_later hown.out b5).alloc (.cells #[.slice NA 8 kA, .int .u32 x1, .int .i16 x2, .int .u16 x3, .int .u8 x4, .int .u8 x5] 38)).alloc (.cells #[.slice NA 8 kA, .int .u32 x1, .int .i16 x2, .int .u16 x3, .int .u8 x4, .int .u8 x5] 38))
        have bk1 := Lib.hid (b5.alloc hz4 (.cells #[.slice NA 8 kA, .int .u32 x1, .int .i16 x2, .int .u16 x3, .int .u8 x4, .int .u8 x5] 38))
        have bk2 := Lib.hid (bk1.out.alloc (by simp; omega) (.cells #[.slice NA 8 kA, .int .u32 x1, .int .i16 x2, .int .u16 x3, .int .u8 x4, .int .u8 x5] 38))
        have hcf : Hid (IsCoff ((w4.alloc (.cells #[.slice NA 8 kA, .int .u32 x1, .int .i16 x2, .int .u16 x3, .int .u8 x4, .int .u8 x5] 38)).alloc (.cells #[.slice NA 8 kA, .int .u32 x1, .int .i16 x2, .int .u16 x3, .int .u8 x4, .int .u8 x5] 38)) [.slice NA 8 kA, .int .u32 x1, .int .i16 x2, .int .u16 x3, .int .u8 x4, .int .u8 x5] ⟨nm, x1, x2, x3, x4, x5⟩) := Lib.hid ⟨NA, kA, rfl, h8'.out, (RA.later ((Below.refl _ _).alloc (Nat.le_refl _) _)).later ((Below.refl _ _).alloc (Nat.le_refl _) _)⟩
        have hrc := rc_newN (w := w4.alloc (.cells #[.slice NA 8 kA, .int .u32 x1, .int .i16 x2, .int .u16 x3, .int .u8 x4, .int .u8 x5] 38)) (vs := [.slice NA 8 kA, .int .u32 x1, .int .i16 x2, .int .u16 x3, .int .u8 x4, .int .u8 x5]) (T := 38) (k := w4.heap.size + 1) (size := 6) (n := 1) (by simp) rfl
        have g6 := Lib.hid (heap_alloc_new w4 (.cells #[.slice none 0 0, .int .u32 0, .int .i16 0, .int .u16 0, .int .u8 0, .int .u8 0] 38))
        clear RA b5 CALL
        go_wp2_with (first | (refine wpList_store_row rfl 38 _ _ rfl w4.heap.size 38 #[.slice none 0 0, .int .u32 0, .int .i16 0, .int .u16 0, .int .u8 0, .int .u8 0] #[.slice NA 8 kA, .int .u32 x1, .int .i16 x2, .int .u16 x3, .int .u8 x4, .int .u8 x5] rfl rfl g6.out rfl hinfo.out (List.all_eq_true.1 rfl) ?_; rw [World.setRow_alloc_new]) | (at_builtin; refine Stop.mk ?_))
        refine Stop.go ?_
        refine wpList_append_any rfl (.tmp 50) (.tmp 52) 48 rfl w.heap.size 38 i0 _ 6 40 Tryd.underlying48 hi hz0 hz1 hz2 rfl (by omega) _ k vs rfl own2.out (some ⟨w4.heap.size + 1, 0, none⟩) 1 1 [.slice NA 8 kA, .int .u32 x1, .int .i16 x2, .int .u16 x3, .int .u8 x4, .int .u8 x5] rfl hrc (List.all_eq_true.1 rfl) (by simp only [maxLen]; omega) (by omega) (by simp; omega) ?_
        intro v1 w5 hown1 hg1 hat1
        have hk3 := Keeps.of_grown own2.out hg1
        have hrec1 := Lib.hid (((hrec.out.mono (fun c x h => (h.later bk2.out).keeps hk3 (by decide))).push (c := [.slice NA 8 kA, .int .u32 x1, .int .i16 x2, .int .u16 x3, .int .u8 x4, .int .u8 x5]) rfl (hcf.out.keeps hk3 (by decide))))
        have er : (symSt (l.drop place) k).1 ++ [⟨nm, x1, x2, x3, x4, x5⟩] = (symSt (l.drop place) (k + 1)).1 := by rw [hbit.out, hcc.out]
        rw [er] at hrec1
        have em : (symSt (l.drop place) (k + 1)).2 = auxN (blk (l.drop place) k) := by rw [hbit.out]
        have hb1 := Lib.hid ((hbl.out.trans (bk2.out.mono hz)).grown hg1 (by simp; omega) (fun q hq => (own2.out.lt q hq).1))
        replace hown1 := Lib.hid hown1
        clear hg1 hat1 hown hbl hk3 hrec own2 bk1 bk2 hcf hrc
        go_wp2
        go_roundw
        case rel => exact ⟨k + 1, _, by omega, by go_num, by rw [em, ← hx5.out], hown1, hrec1, hb1⟩
        case measure => simp [intOf]; omega
      · have hbit := Lib.hid (symSt_pos haux)
        obtain ⟨m, hmm⟩ : ∃ m, (symSt (l.drop place) k).2 = m := ⟨_, rfl⟩
        have hm' : 0 < m := by omega
        have hm : (0 : Int) < (m : Int) := by omega
        have hlt := symSt_lt (l.drop place) k
        rw [hmm] at hlt ⊢
        have CALL := Lib.hid (slot_aux (slA A c (place + 18 * k)) (l.drop (place + 18 * k)) (len - (place + 18 * k)) (c - (place + 18 * k)) hN2 hcl (by omega) (by omega) wr Ak)
        have hm1 : IntKind.i64.wrap ((m : Int) - 1) = (m : Int) - 1 := IntWalk.i64_in _ (by omega)
        replace hmm := Lib.hid hmm
        clear haux hlt
        go_wp2_with fail
        refine CALL.out.mono ?_
        rintro e w4 ⟨⟨cv, rfl, hcv⟩, b5⟩
        rw [hblk.out] at hcv
        obtain ⟨NA, kA, rfl, h8', RA⟩ := hcv
        replace h8' := Lib.hid h8'
        have hz4 := b5.size
        obtain ⟨⟨nm, x1, x2, x3, x4, x5⟩, hcc⟩ : ∃ cc, auxL (blk (l.drop place) k) = cc := ⟨_, rfl⟩
        rw [hcc] at RA h8' ⊢
        
        
        
        replace hcc := Lib.hid hcc
        
        
        simp only [symTail] at RA ⊢
        have own2 := Lib.hid (((owns_later hown.out b5).alloc (.cells #[.slice NA 8 kA, .int .u32 x1, .int .i16 x2, .int .u16 x3, .int .u8 x4, .int .u8 x5] 38)).alloc (.cells #[.slice NA 8 kA, .int .u32 x1, .int .i16 x2, .int .u16 x3, .int .u8 x4, .int .u8 x5] 38))
        have bk1 := Lib.hid (b5.alloc hz4 (.cells #[.slice NA 8 kA, .int .u32 x1, .int .i16 x2, .int .u16 x3, .int .u8 x4, .int .u8 x5] 38))
        have bk2 := Lib.hid (bk1.out.alloc (by simp; omega) (.cells #[.slice NA 8 kA, .int .u32 x1, .int .i16 x2, .int .u16 x3, .int .u8 x4, .int .u8 x5] 38))
        have hcf : Hid (IsCoff ((w4.alloc (.cells #[.slice NA 8 kA, .int .u32 x1, .int .i16 x2, .int .u16 x3, .int .u8 x4, .int .u8 x5] 38)).alloc (.cells #[.slice NA 8 kA, .int .u32 x1, .int .i16 x2, .int .u16 x3, .int .u8 x4, .int .u8 x5] 38)) [.slice NA 8 kA, .int .u32 x1, .int .i16 x2, .int .u16 x3, .int .u8 x4, .int .u8 x5] ⟨nm, x1, x2, x3, x4, x5⟩) := Lib.hid ⟨NA, kA, rfl, h8'.out, (RA.later ((Below.refl _ _).alloc (Nat.le_refl _) _)).later ((Below.refl _ _).alloc (Nat.le_refl _) _)⟩
        have hrc := rc_newN (w := w4.alloc (.cells #[.slice NA 8 kA, .int .u32 x1, .int .i16 x2, .int .u16 x3, .int .u8 x4, .int .u8 x5] 38)) (vs := [.slice NA 8 kA, .int .u32 x1, .int .i16 x2, .int .u16 x3, .int .u8 x4, .int .u8 x5]) (T := 38) (k := w4.heap.size + 1) (size := 6) (n := 1) (by simp) rfl
        have g6 := Lib.hid (heap_alloc_new w4 (.cells #[.slice none 0 0, .int .u32 0, .int .i16 0, .int .u16 0, .int .u8 0, .int .u8 0] 38))
        clear RA b5 CALL
        go_wp2_with (first | (refine wpList_store_row rfl 38 _ _ rfl w4.heap.size 38 #[.slice none 0 0, .int .u32 0, .int .i16 0, .int .u16 0, .int .u8 0, .int .u8 0] #[.slice NA 8 kA, .int .u32 x1, .int .i16 x2, .int .u16 x3, .int .u8 x4, .int .u8 x5] rfl rfl g6.out rfl hinfo.out (List.all_eq_true.1 rfl) ?_; rw [World.setRow_alloc_new]) | (at_builtin; refine Stop.mk ?_))
        refine Stop.go ?_
        refine wpList_append_any rfl (.tmp 50) (.tmp 52) 48 rfl w.heap.size 38 i0 _ 6 40 Tryd.underlying48 hi hz0 hz1 hz2 rfl (by omega) _ k vs rfl own2.out (some ⟨w4.heap.size + 1, 0, none⟩) 1 1 [.slice NA 8 kA, .int .u32 x1, .int .i16 x2, .int .u16 x3, .int .u8 x4, .int .u8 x5] rfl hrc (List.all_eq_true.1 rfl) (by simp only [maxLen]; omega) (by omega) (by simp; omega) ?_
        intro v1 w5 hown1 hg1 hat1
        have hk3 := Keeps.of_grown own2.out hg1
        have hrec1 := Lib.hid (((hrec.out.mono (fun c x h => (h.later bk2.out).keeps hk3 (by decide))).push (c := [.slice NA 8 kA, .int .u32 x1, .int .i16 x2, .int .u16 x3, .int .u8 x4, .int .u8 x5]) rfl (hcf.out.keeps hk3 (by decide))))
        have er : (symSt (l.drop place) k).1 ++ [⟨nm, x1, x2, x3, x4, x5⟩] = (symSt (l.drop place) (k + 1)).1 := by rw [hbit.out, hcc.out]
        rw [er] at hrec1
        have em : (symSt (l.drop place) (k + 1)).2 = m - 1 := by rw [hbit.out, ← hmm.out]
        have hb1 := Lib.hid ((hbl.out.trans (bk2.out.mono hz)).grown hg1 (by simp; omega) (fun q hq => (own2.out.lt q hq).1))
        replace hown1 := Lib.hid hown1
        clear hg1 hat1 hown hbl hk3 hrec own2 bk1 bk2 hcf hrc
        go_wp2
        go_roundw
        case rel => exact ⟨k + 1, _, by omega, by go_num, by rw [em]; congr 1; omega, hown1, hrec1, hb1⟩
        case measure => simp [intOf]; omega
    · obtain rfl : k = n := by omega
      go_wp2
      go_ret2
      exact ⟨⟨_, _, rfl, hown, hrec⟩, hbl.out⟩
end Go.Proofs.YthnlimhpnonnmaaDoorRRR
