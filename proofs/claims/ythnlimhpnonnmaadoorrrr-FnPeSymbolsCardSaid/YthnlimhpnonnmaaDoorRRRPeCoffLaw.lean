/-
  The reference's record of a table of symbols; the comparison of two records; the walk of the law FnPeCoff.
-/
import Derived.Test.YthnlimhpnonnmaaDoorRRRPeCoffs
namespace Go.Proofs.YthnlimhpnonnmaaDoorRRR
set_option linter.unusedVariables false
set_option linter.unusedSimpArgs false
open Go Go.RowKit
attribute [local go_sem ↓] Go.wp_at_zero Go.wp_at_succ

theorem owns_cells {w : World} {base : Nat} {e : TypeId} {v : Value} {n : Nat} {vs : List Value} (h : w.ownsRow base e 1 v n vs) (h0 : 0 < n) :
    ∃ g cap, v = .slice (some ⟨g, 0, none⟩) n cap ∧ n ≤ cap ∧ base ≤ g ∧ g < w.heap.size ∧ ∀ j u, vs[j]? = some u → w.cell? ⟨g, j, none⟩ = some u := by
  obtain ⟨A, c, rfl, hR, hc, -⟩ := RT.of_owns h
  obtain ⟨g, o, cur, fr, rfl, hg, hcl⟩ := hR.2 h0
  rcases h.2 with ⟨h1, _⟩ | ⟨g', cap', cur', h1, hb, _⟩
  · simp at h1
  · simp only [Value.slice.injEq, Option.some.injEq, Addr.mk.injEq, and_true] at h1
    obtain ⟨⟨rfl, rfl⟩, -, rfl⟩ := h1
    refine ⟨_, _, rfl, hc, hb, (Array.getElem?_eq_some_iff.1 hg).1, fun j u hu => ?_⟩
    rw [cell_of_row w _ j _ _ _ hg]
    simpa using hcl j u hu

theorem wrap_kind (big : Bool) (s : List UInt8) (k m : Nat) (hk : 256 ^ k ≤ m) : num big (s.take k) < m :=
  Nat.lt_of_lt_of_le (num_lt big (s.take k)) (Nat.le_trans (Nat.pow_le_pow_right (by omega) (by simp; omega)) hk)
theorem wrap_u32 (s : List UInt8) : IntKind.u32.wrap ((num false (s.take 4) : Nat) : Int) = ((num false (s.take 4) : Nat) : Int) := by
  have := wrap_kind false s 4 4294967296 (by decide)
  rw [IntKind.wrap_u32]
  omega
theorem wrap_u16 (s : List UInt8) : IntKind.u16.wrap ((num false (s.take 2) : Nat) : Int) = ((num false (s.take 2) : Nat) : Int) := by
  have := wrap_kind false s 2 65536 (by decide)
  rw [IntKind.wrap_u16]
  omega
theorem wrap_u8 (s : List UInt8) : IntKind.u8.wrap ((num false (s.take 1) : Nat) : Int) = ((num false (s.take 1) : Nat) : Int) := by
  have := wrap_kind false s 1 256 (by decide)
  rw [IntKind.wrap_u8]
  omega

theorem coffL_take (l : List UInt8) : coffL (l.take 18) = coffL l := by
  simp [coffL, List.drop_take, List.take_take]

set_option maxHeartbeats 400000 in
theorem peCoff_any (w : World) :
    Calls Tryd.prog 33 #[] w fun e w' => (∃ v, e = .returned (.slice v 6 6) ∧ RC w' v 1 6 (([-8, 4, 2, 2, 1, 1] : List Int).map iv)) ∧ Below w.heap.size w w' := by
  go_enter Tryd.func33, Tryd.ntmps33
  go_wp2
  go_ret
  exact ⟨⟨_, rfl, rc_new rfl rfl⟩, (Below.refl _ _).alloc (Nat.le_refl _) _⟩

set_option maxRecDepth 100000 in
set_option maxHeartbeats 1000000 in
theorem specCoff_all (A : Option Addr) (l : List UInt8) (n c : Nat) (hN : Hid (n = l.length)) (hc : n ≤ c) (hb : n ≤ 2147483647) (hZ : 18 ≤ n) (w : World) (hA : RB w A l) :
    Calls Tryd.prog 15 #[.slice A n c] w fun e w' => e = .returned (.tuple #[.agg (.slice A 8 c :: symTail (coffL l)).toArray, .bool true]) ∧ Below w.heap.size w w' := by
  have hff := fieldsOf_all false [-8, 4, 2, 2, 1, 1] l
  have hwid : widthOf [-8, 4, 2, 2, 1, 1] = 18 := rfl
  have hnum : numsOf false [-8, 4, 2, 2, 1, 1] l = [num false ((l.drop 8).take 4), num false ((l.drop 12).take 2), num false ((l.drop 14).take 2), num false ((l.drop 16).take 1), num false ((l.drop 17).take 1)] := by simp [numsOf, List.drop_drop]
  rw [hwid, if_neg (by have := hN.out; omega), hnum] at hff
  replace hff := Lib.hid hff
  clear hwid hnum
  have g0 := Lib.hid (heap_alloc_new w (.cells #[.slice none 0 0, .int .u32 0, .int .i16 0, .int .u16 0, .int .u8 0, .int .u8 0] 38))
  have b0 : Below w.heap.size w (w.alloc (.cells #[.slice none 0 0, .int .u32 0, .int .i16 0, .int .u16 0, .int .u8 0, .int .u8 0] 38)) := (Below.refl _ _).alloc (Nat.le_refl _) _
  have A0 := Lib.hid (hA.later b0)
  replace b0 := Lib.hid b0
  have ex : (.slice A 8 c :: symTail (coffL l) : List Value) = [.slice A 8 c, .int .u32 (num false ((l.drop 8).take 4) : Nat), .int .i16 (IntKind.i16.wrap (num false ((l.drop 12).take 2) : Nat)), .int .u16 (num false ((l.drop 14).take 2) : Nat), .int .u8 (num false ((l.drop 16).take 1) : Nat), .int .u8 (num false ((l.drop 17).take 1) : Nat)] := rfl
  rw [ex]
  clear ex
  go_enter Tryd.func15, Tryd.ntmps15
  go_wp2_with fail
  refine (peCoff_any _).mono ?_
  rintro e w2 ⟨⟨B, rfl, R2⟩, b2⟩
  have A2 := Lib.hid (A0.out.later b2)
  replace g0 := row_later b2 g0
  have hz2 := b2.size
  simp at hz2
  replace b0 := Lib.hid (b0.out.trans (b2.mono (by simp)))
  clear b2 A0
  go_wp2_with fail
  refine (fields_any false A B l [-8, 4, 2, 2, 1, 1] n c 6 6 hN hc hb (Lib.hid (by simp)) (by omega) (Lib.hid (by decide)) w2 A2 (Lib.hid R2)).mono ?_
  rintro e w3 ⟨h | ⟨r, v3, e3, rfl, own3⟩, b3⟩
  · rw [hff.out] at h; cases h.1
  · obtain rfl := Option.some.inj (hff.out.symm.trans e3)
    obtain ⟨C, d3, rfl, hd3, hbC, hC3, hcl⟩ := owns_cells own3 (by simp)
    have hne : ¬ C = w.heap.size := by omega
    have hne' : ¬ w.heap.size = C := by omega
    have c0 := hcl 0 _ rfl
    have c1 := hcl 1 _ rfl
    have c2 := hcl 2 _ rfl
    have c3 := hcl 3 _ rfl
    have c4 := hcl 4 _ rfl
    simp only [uv] at c0 c1 c2 c3 c4
    simp only [List.length_cons, List.length_nil, Nat.zero_add, Nat.reduceAdd] at hd3 ⊢
    have W0 := wrap_u32 (l.drop 8)
    have W2 := wrap_u16 (l.drop 14)
    have W3 := wrap_u8 (l.drop 16)
    have W4 := wrap_u8 (l.drop 17)
    have hsl : ∀ W, (Instr.slice 22 (.slice A n c) none (some (.int .i64 8)) none).run Tryd.prog W = .ok (.slice A 8 c) W := fun W => run_slice_to (P := Tryd.prog) Tryd.underlying22 (info_parts Tryd.infoByte).choose_spec.1 A n c 8 (by omega) W
    have g3 := row_later b3 g0
    replace b0 := Lib.hid (b0.out.trans (b3.mono (by omega)))
    have hz3 := b3.size
    clear hcl own3 e3 R2 A2 g0 b3
    have r0 : w3.cell? ⟨w.heap.size, 0, none⟩ = some (.slice none 0 0) := cell_of_row _ _ 0 _ _ _ g3.out
    have f0 : w3.frozen? ⟨w.heap.size, 0, none⟩ = false := frozen_of_row _ _ 0 _ _ g3.out
    have r1 : w3.cell? ⟨w.heap.size, 1, none⟩ = some (.int .u32 0) := cell_of_row _ _ 1 _ _ _ g3.out
    have f1 : w3.frozen? ⟨w.heap.size, 1, none⟩ = false := frozen_of_row _ _ 1 _ _ g3.out
    have r2 : w3.cell? ⟨w.heap.size, 2, none⟩ = some (.int .i16 0) := cell_of_row _ _ 2 _ _ _ g3.out
    have f2 : w3.frozen? ⟨w.heap.size, 2, none⟩ = false := frozen_of_row _ _ 2 _ _ g3.out
    have r3 : w3.cell? ⟨w.heap.size, 3, none⟩ = some (.int .u16 0) := cell_of_row _ _ 3 _ _ _ g3.out
    have f3 : w3.frozen? ⟨w.heap.size, 3, none⟩ = false := frozen_of_row _ _ 3 _ _ g3.out
    have r4 : w3.cell? ⟨w.heap.size, 4, none⟩ = some (.int .u8 0) := cell_of_row _ _ 4 _ _ _ g3.out
    have f4 : w3.frozen? ⟨w.heap.size, 4, none⟩ = false := frozen_of_row _ _ 4 _ _ g3.out
    have r5 : w3.cell? ⟨w.heap.size, 5, none⟩ = some (.int .u8 0) := cell_of_row _ _ 5 _ _ _ g3.out
    have f5 : w3.frozen? ⟨w.heap.size, 5, none⟩ = false := frozen_of_row _ _ 5 _ _ g3.out
    go_wp2_with fail
    go_region_held3 (fun w' => w'.cell? ⟨C, 0, none⟩ = some (.int .u64 (num false ((l.drop 8).take 4) : Nat)) ∧ w'.cell? ⟨C, 1, none⟩ = some (.int .u64 (num false ((l.drop 12).take 2) : Nat)) ∧ w'.cell? ⟨C, 2, none⟩ = some (.int .u64 (num false ((l.drop 14).take 2) : Nat)) ∧ w'.cell? ⟨C, 3, none⟩ = some (.int .u64 (num false ((l.drop 16).take 1) : Nat)) ∧ w'.cell? ⟨C, 4, none⟩ = some (.int .u64 (num false ((l.drop 17).take 1) : Nat))) (go_keep) (fail)
    have hc := chg6 (.slice A 8 c) (.int .u32 (num false ((l.drop 8).take 4) : Nat)) (.int .i16 (IntKind.i16.wrap (num false ((l.drop 12).take 2) : Nat))) (.int .u16 (num false ((l.drop 14).take 2) : Nat)) (.int .u8 (num false ((l.drop 16).take 1) : Nat)) (.int .u8 (num false ((l.drop 17).take 1) : Nat)) w.heap.size w3
    replace hc := Lib.hid hc
    go_wp2_with fail
    exact bodyPost_ret (v := .tuple #[.agg #[.slice A 8 c, .int .u32 (num false ((l.drop 8).take 4) : Nat), .int .i16 (IntKind.i16.wrap (num false ((l.drop 12).take 2) : Nat)), .int .u16 (num false ((l.drop 14).take 2) : Nat), .int .u8 (num false ((l.drop 16).take 1) : Nat), .int .u8 (num false ((l.drop 17).take 1) : Nat)], .bool true]) (by simp [results, Tryd.results15, go_sem, r0, r1, r2, r3, r4, r5]) rfl ⟨rfl, b0.out.trans ((hc.out.below (by omega) (fun k hk e => by omega)).drew)⟩

set_option maxRecDepth 100000 in
set_option maxHeartbeats 1000000 in
theorem specCoff_short (A : Option Addr) (l : List UInt8) (n c : Nat) (hN : Hid (n = l.length)) (hc : n ≤ c) (hb : n ≤ 2147483647) (hZ : n < 18) (w : World) (hA : RB w A l) :
    Calls Tryd.prog 15 #[.slice A n c] w fun e w' => e = .returned (.tuple #[.agg #[.slice none 0 0, .int .u32 0, .int .i16 0, .int .u16 0, .int .u8 0, .int .u8 0], .bool false]) ∧ Below w.heap.size w w' := by
  have hff := fieldsOf_all false [-8, 4, 2, 2, 1, 1] l
  have hwid : widthOf [-8, 4, 2, 2, 1, 1] = 18 := rfl
  rw [hwid, if_pos (by have := hN.out; omega)] at hff
  replace hff := Lib.hid hff
  clear hwid
  have hinfo2 : (Tryd.prog.info? 38).map (·.size) = some 6 := by kernel_rfl
  replace hinfo2 := Lib.hid hinfo2
  have g0 := Lib.hid (heap_alloc_new w (.cells #[.slice none 0 0, .int .u32 0, .int .i16 0, .int .u16 0, .int .u8 0, .int .u8 0] 38))
  have b0 : Below w.heap.size w (w.alloc (.cells #[.slice none 0 0, .int .u32 0, .int .i16 0, .int .u16 0, .int .u8 0, .int .u8 0] 38)) := (Below.refl _ _).alloc (Nat.le_refl _) _
  have A0 := Lib.hid (hA.later b0)
  replace b0 := Lib.hid b0
  go_enter Tryd.func15, Tryd.ntmps15
  go_wp2_with fail
  refine (peCoff_any _).mono ?_
  rintro e w2 ⟨⟨B, rfl, R2⟩, b2⟩
  have A2 := Lib.hid (A0.out.later b2)
  replace g0 := row_later b2 g0
  have hz2 := b2.size
  simp at hz2
  replace b0 := Lib.hid (b0.out.trans (b2.mono (by simp)))
  clear b2 A0
  go_wp2_with fail
  refine (fields_any false A B l [-8, 4, 2, 2, 1, 1] n c 6 6 hN hc hb (Lib.hid (by simp)) (by omega) (Lib.hid (by decide)) w2 A2 (Lib.hid R2)).mono ?_
  rintro e w3 ⟨⟨-, rfl⟩ | ⟨r, v3, e3, -, -⟩, b3⟩
  · have g3 := row_later b3 g0
    replace b0 := Lib.hid (b0.out.trans (b3.mono (by omega)))
    clear R2 A2 g0 b3
    go_wp2_with (refine wpList_store_self rfl 38 _ _ rfl w.heap.size 38 #[.slice none 0 0, .int .u32 0, .int .i16 0, .int .u16 0, .int .u8 0, .int .u8 0] rfl rfl g3.out hinfo2.out (List.all_eq_true.1 rfl) ?_)
    exact bodyPost_ret (results_cell_tmp rfl _ _ w.heap.size 38 #[.slice none 0 0, .int .u32 0, .int .i16 0, .int .u16 0, .int .u8 0, .int .u8 0] (0, 0) _ rfl g3.out Tryd.underlying38 rfl hinfo2.out) rfl ⟨rfl, b0.out⟩
  · rw [hff.out] at e3; cases e3

set_option maxRecDepth 100000 in
set_option maxHeartbeats 1000000 in
theorem coffIs_yes (c : CoffL) (h8 : Hid (c.name.length = 8)) (A B : Option Addr) (k d : Nat) (w : World) (hA : Hid (RB w A c.name)) (hB : Hid (RB w B c.name)) :
    Calls Tryd.prog 16 #[.agg (.slice A 8 k :: symTail c).toArray, .agg (.slice B 8 d :: symTail c).toArray] w fun e w' => e = .returned (.bool true) ∧ Below w.heap.size w w' := by
  obtain ⟨nm, x1, x2, x3, x4, x5⟩ := c
  simp only [symTail] at *
  have hb := Lib.hid (((Below.refl w.heap.size w).alloc (Nat.le_refl _) (.cells #[.slice A 8 k, .int .u32 x1, .int .i16 x2, .int .u16 x3, .int .u8 x4, .int .u8 x5] 35)).alloc (by simp) (.cells #[.slice B 8 d, .int .u32 x1, .int .i16 x2, .int .u16 x3, .int .u8 x4, .int .u8 x5] 38))
  have hcv1 := run_conv_RB (P := Tryd.prog) Tryd.underlying22 Tryd.underlying5 Tryd.underlying9 (hA.out.later hb.out) (n := 8) (c := k) h8.out.symm
  have hcv2 := run_conv_RB (P := Tryd.prog) Tryd.underlying22 Tryd.underlying5 Tryd.underlying9 (hB.out.later hb.out) (n := 8) (c := d) h8.out.symm
  go_enter Tryd.func16, Tryd.ntmps16
  go_wp2
  go_ret
  exact ⟨rfl, hb.out⟩

set_option maxRecDepth 100000 in
set_option maxHeartbeats 1000000 in
theorem lawCoff_all (a1 : Option Addr) (len1 cap1 : Nat) (l : List UInt8) (w : World) (hN : Hid (len1 = l.length)) (hr : RB w a1 l) (hc : len1 ≤ cap1) (hb : len1 ≤ 1048576) (h3 : 3 ≤ w.heap.size) (hZ : 18 ≤ len1) :
    Calls Tryd.prog 4 #[.slice a1 len1 cap1] w fun e w' => e = .returned (.bool true) ∧ Below w.heap.size w w' := by
  have hinfo : (Tryd.prog.info? 35).map (·.size) = some 6 := by kernel_rfl
  have hinfo2 : (Tryd.prog.info? 38).map (·.size) = some 6 := by kernel_rfl
  replace hinfo := Lib.hid hinfo
  replace hinfo2 := Lib.hid hinfo2
  go_enter Tryd.func4, Tryd.ntmps4
  go_wp2_with fail
  refine (implCoff_all a1 l len1 cap1 hN (by omega) hZ w hr h3).mono ?_
  rintro e w1 ⟨⟨vs, rfl, hvs⟩, b1⟩
  rw [coffL_take] at hvs
  obtain ⟨N, k, rfl, h8, RN⟩ := hvs
  have hz1 := b1.size
  replace h8 := Lib.hid h8
  have g1 := Lib.hid (heap_alloc_new w1 (.cells #[.slice none 0 0, .int .u32 0, .int .i16 0, .int .u16 0, .int .u8 0, .int .u8 0] 35))
  have g2 := Lib.hid ((congrArg (fun x : World => x.heap[w1.heap.size]?) (World.setRow_alloc_new w1 #[.slice none 0 0, .int .u32 0, .int .i16 0, .int .u16 0, .int .u8 0, .int .u8 0] (Value.slice N 8 k :: symTail (coffL l)).toArray 35)).trans (heap_alloc_new w1 _))
  have b2 : Below w1.heap.size w1 ((w1.alloc (.cells #[.slice none 0 0, .int .u32 0, .int .i16 0, .int .u16 0, .int .u8 0, .int .u8 0] 35)).setRow w1.heap.size (Value.slice N 8 k :: symTail (coffL l)).toArray) := below_setRow ((Below.refl _ _).alloc (Nat.le_refl _) _) (Nat.le_refl _) _
  have R2 := Lib.hid (RN.later b2)
  have hz2 := b2.size
  have A2 := Lib.hid ((hr.later b1).later b2)
  replace b2 := Lib.hid (b1.trans (b2.mono hz1))
  clear b1 RN
  go_wp2_with (refine wpList_store_row rfl 35 _ _ rfl w1.heap.size 35 #[.slice none 0 0, .int .u32 0, .int .i16 0, .int .u16 0, .int .u8 0, .int .u8 0] (Value.slice N 8 k :: symTail (coffL l)).toArray rfl rfl g1.out rfl hinfo.out (List.all_eq_true.1 rfl) ?_)
  generalize (w1.alloc (.cells #[.slice none 0 0, .int .u32 0, .int .i16 0, .int .u16 0, .int .u8 0, .int .u8 0] 35)).setRow w1.heap.size (Value.slice N 8 k :: symTail (coffL l)).toArray = W2 at *
  generalize w1.heap.size = V1 at *
  clear g1
  refine (specCoff_all a1 l len1 cap1 hN hc (by omega) hZ W2 A2.out).mono ?_
  rintro e w3 ⟨rfl, b3⟩
  have g3 := row_later b3 g2
  have R3 := Lib.hid (R2.out.later b3)
  have A3 := Lib.hid (A2.out.later b3)
  have hz3 := b3.size
  replace b3 := Lib.hid (b2.out.trans (b3.mono b2.out.size))
  clear g2 R2 A2 b2
  have hV1 : V1 < w3.heap.size := (Array.getElem?_eq_some_iff.1 g3.out).1
  have g4 := Lib.hid (heap_alloc_new w3 (.cells #[.slice none 0 0, .int .u32 0, .int .i16 0, .int .u16 0, .int .u8 0, .int .u8 0] 38))
  have g5 := Lib.hid ((congrArg (fun x : World => x.heap[w3.heap.size]?) (World.setRow_alloc_new w3 #[.slice none 0 0, .int .u32 0, .int .i16 0, .int .u16 0, .int .u8 0, .int .u8 0] (Value.slice a1 8 cap1 :: symTail (coffL l)).toArray 38)).trans (heap_alloc_new w3 _))
  have b4 : Below w3.heap.size w3 ((w3.alloc (.cells #[.slice none 0 0, .int .u32 0, .int .i16 0, .int .u16 0, .int .u8 0, .int .u8 0] 38)).setRow w3.heap.size (Value.slice a1 8 cap1 :: symTail (coffL l)).toArray) := below_setRow ((Below.refl _ _).alloc (Nat.le_refl _) _) (Nat.le_refl _) _
  have g6 := row_later b4 g3
  have R4 := Lib.hid (R3.out.later b4)
  have A4 := Lib.hid (A3.out.later b4)
  replace b4 := Lib.hid (b3.out.trans (b4.mono b3.out.size))
  clear g3 R3 A3 b3
  have c0 := World.cell?_of_row g6.out 0 _ rfl
  have d0 := World.cell?_of_row g5.out 0 _ rfl
  have c1 := World.cell?_of_row g6.out 1 _ rfl
  have d1 := World.cell?_of_row g5.out 1 _ rfl
  have c2 := World.cell?_of_row g6.out 2 _ rfl
  have d2 := World.cell?_of_row g5.out 2 _ rfl
  have c3 := World.cell?_of_row g6.out 3 _ rfl
  have d3 := World.cell?_of_row g5.out 3 _ rfl
  have c4 := World.cell?_of_row g6.out 4 _ rfl
  have d4 := World.cell?_of_row g5.out 4 _ rfl
  have c5 := World.cell?_of_row g6.out 5 _ rfl
  have d5 := World.cell?_of_row g5.out 5 _ rfl
  go_wp2_with (refine wpList_store_row rfl 38 _ _ rfl w3.heap.size 38 #[.slice none 0 0, .int .u32 0, .int .i16 0, .int .u16 0, .int .u8 0, .int .u8 0] (Value.slice a1 8 cap1 :: symTail (coffL l)).toArray rfl rfl g4.out rfl hinfo2.out (List.all_eq_true.1 rfl) ?_)
  refine (coffIs_yes (coffL l) h8 N a1 k cap1 _ (Lib.hid R4.out.bytes) (Lib.hid (by exact (A4.out.take 8)))).mono ?_
  rintro e w5 ⟨rfl, b5⟩
  go_wp2
  go_ret
  exact ⟨rfl, b4.out.trans (b5.mono b4.out.size)⟩

set_option maxRecDepth 100000 in
set_option maxHeartbeats 1000000 in
theorem lawCoff_short (a1 : Option Addr) (len1 cap1 : Nat) (l : List UInt8) (w : World) (hN : Hid (len1 = l.length)) (hr : RB w a1 l) (hc : len1 ≤ cap1) (hb : len1 ≤ 1048576) (TE TU : TypeId) (vE vU : Value) (hE : Hid (ErrsAt w TE TU vE vU)) (h3 : 3 ≤ w.heap.size) (hZ : len1 < 18) :
    Calls Tryd.prog 4 #[.slice a1 len1 cap1] w fun e w' => e = .returned (.bool true) ∧ Below w.heap.size w w' := by
  have hinfo : (Tryd.prog.info? 35).map (·.size) = some 6 := by kernel_rfl
  have hinfo2 : (Tryd.prog.info? 38).map (·.size) = some 6 := by kernel_rfl
  replace hinfo := Lib.hid hinfo
  replace hinfo2 := Lib.hid hinfo2
  go_enter Tryd.func4, Tryd.ntmps4
  go_wp2_with fail
  refine (implCoff_short a1 l len1 cap1 hN (by omega) hZ w hr TE TU vE vU hE h3).mono ?_
  rintro e w1 ⟨rfl, b1⟩
  have g1 := Lib.hid (heap_alloc_new w1 (.cells #[.slice none 0 0, .int .u32 0, .int .i16 0, .int .u16 0, .int .u8 0, .int .u8 0] 35))
  have b2 : Below w1.heap.size w1 (w1.alloc (.cells #[.slice none 0 0, .int .u32 0, .int .i16 0, .int .u16 0, .int .u8 0, .int .u8 0] 35)) := (Below.refl _ _).alloc (Nat.le_refl _) _
  have A2 := Lib.hid ((hr.later b1).later b2)
  replace b2 := Lib.hid (b1.trans (b2.mono b1.size))
  clear b1
  go_wp2_with (refine wpList_store_self rfl 35 _ _ rfl w1.heap.size 35 #[.slice none 0 0, .int .u32 0, .int .i16 0, .int .u16 0, .int .u8 0, .int .u8 0] rfl rfl g1.out hinfo.out (List.all_eq_true.1 rfl) ?_)
  refine (specCoff_short a1 l len1 cap1 hN hc (by omega) hZ _ A2.out).mono ?_
  rintro e w3 ⟨rfl, b3⟩
  replace b3 := Lib.hid (b2.out.trans (b3.mono b2.out.size))
  have g4 := Lib.hid (heap_alloc_new w3 (.cells #[.slice none 0 0, .int .u32 0, .int .i16 0, .int .u16 0, .int .u8 0, .int .u8 0] 38))
  go_wp2_with (refine wpList_store_self rfl 38 _ _ rfl w3.heap.size 38 #[.slice none 0 0, .int .u32 0, .int .i16 0, .int .u16 0, .int .u8 0, .int .u8 0] rfl rfl g4.out hinfo2.out (List.all_eq_true.1 rfl) ?_)
  go_ret
  exact ⟨rfl, b3.out.alloc b3.out.size _⟩

theorem law_FnPeCoff (a0 : Option Addr) (len0 cap0 : Nat) (z0 : List Int) (w : World) (w0 : IsRow .u8 w a0 len0 cap0 z0) (TE TU : TypeId) (vE vU : Value) (hErr : ErrsAt w TE TU vE vU) (h3 : 3 ≤ w.heap.size) :
    Calls Tryd.prog 4 #[.slice a0 len0 cap0] w fun e w' => e = .returned (.bool true) ∧ Below w.heap.size w w' := by
  obtain ⟨l, hl, hr, hc, hm⟩ := w0.bytes
  have hN := Lib.hid hl
  have hE := Lib.hid hErr
  clear hl w0 hm hErr
  by_cases hb : len0 ≤ 1048576
  · by_cases hZ : 18 ≤ len0
    · exact lawCoff_all a0 len0 cap0 l w hN hr hc hb h3 hZ
    · exact lawCoff_short a0 len0 cap0 l w hN hr hc hb TE TU vE vU hE h3 (by omega)
  · have hb1 : Hid (1048576 < len0) := Lib.hid (by omega)
    by_cases hb2 : len0 ≤ 2147483647
    · go_enter Tryd.func4, Tryd.ntmps4
      go_wp2
      go_ret
      exact ⟨rfl, Below.refl _ _⟩
    · go_enter Tryd.func4, Tryd.ntmps4
      go_wp2
      go_ret
      exact ⟨rfl, Below.refl _ _⟩
end Go.Proofs.YthnlimhpnonnmaaDoorRRR
