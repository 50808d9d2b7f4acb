/-
  The reference's record of a table of symbols.
  A record of the reference's table of symbols: slot, of an auxiliary record.
  What is kept while the symbols of a PE file are made: a symbol, and a record, is pushed into the file's value. No program in sight.
  Pieces of spec.PeOf, each a lemma over its own frame. (Printed by gen_peofr.py.)
  More pieces of spec.PeOf, each a lemma over its own frame. (Printed by gen_peofr2.py.)
-/
import Derived.Test.YtbpebngjpecncaaGreatDoorGen
import Derived.Test.YtbpebngjpecncaaGreatDoorCoffRec
import Derived.Test.YtbpebngjpecncaaGreatDoorSymsP
import Derived.Test.YtbpebngjpecncaaGreatDoorPeOfT
import Derived.Test.YtbpebngjpecncaaGreatDoorPeOf1
import Derived.Lib.SlBuf
import Derived.Deep.RegionLaw
namespace Go.Proofs.YtbpebngjpecncaaGreatDoor
set_option linter.unusedVariables false
set_option linter.unusedSimpArgs false
set_option maxRecDepth 100000
open Go Go.RowKit
attribute [local go_sem ↓] Go.wp_at_zero Go.wp_at_succ

theorem wrap_kind (big : Bool) (s : List UInt8) (k m : Nat) (hk : 256 ^ k ≤ m) : num big (s.take k) < m :=
  Nat.lt_of_lt_of_le (num_lt big (s.take k)) (Nat.le_trans (Nat.pow_le_pow_right (by omega) (by simp; omega)) hk)
theorem wrap_u32 (s : List UInt8) : IntKind.u32.wrap ((num false (s.take 4) : Nat) : Int) = ((num false (s.take 4) : Nat) : Int) := by
  have := wrap_kind false s 4 4294967296 (by decide)
  rw [IntKind.wrap_u32]
  omega
theorem wrap_u16 (s : List UInt8) : IntKind.u16.wrap ((num false (s.take 2) : Nat) : Int) = ((num false (s.take 2) : Nat) : Int) := by
  have := wrap_kind false s 2 65536 (by decide)
  rw [IntKind.wrap_u16]
  omega
theorem wrap_u8 (s : List UInt8) : IntKind.u8.wrap ((num false (s.take 1) : Nat) : Int) = ((num false (s.take 1) : Nat) : Int) := by
  have := wrap_kind false s 1 256 (by decide)
  rw [IntKind.wrap_u8]
  omega

set_option maxHeartbeats 400000 in
theorem peCoff_any (w : World) :
    Calls Tryz.prog 19 #[] w fun e w' => (∃ v, e = .returned (.slice v 6 6) ∧ RC w' v 1 6 (([-8, 4, 2, 2, 1, 1] : List Int).map iv)) ∧ Below w.heap.size w w' := by
  go_enter Tryz.func19, Tryz.ntmps19
  go_wp2
  go_ret
  exact ⟨⟨_, rfl, rc_new rfl rfl⟩, (Below.refl _ _).alloc (Nat.le_refl _) _⟩

set_option maxRecDepth 100000 in
set_option maxHeartbeats 1000000 in
theorem specCoff_all (A : Option Addr) (l : List UInt8) (n c : Nat) (hN : Hid (n = l.length)) (hc : n ≤ c) (hb : n ≤ 2147483647) (hZ : 18 ≤ n) (w : World) (hA : RB w A l) :
    Calls Tryz.prog 27 #[.slice A n c] w fun e w' => e = .returned (.tuple #[.agg (.slice A 8 c :: symTail (coffL l)).toArray, .bool true]) ∧ Below w.heap.size w w' := by
  have hff := fieldsOf_all false [-8, 4, 2, 2, 1, 1] l
  have hwid : widthOf [-8, 4, 2, 2, 1, 1] = 18 := rfl
  have hnum : numsOf false [-8, 4, 2, 2, 1, 1] l = [num false ((l.drop 8).take 4), num false ((l.drop 12).take 2), num false ((l.drop 14).take 2), num false ((l.drop 16).take 1), num false ((l.drop 17).take 1)] := by simp [numsOf, List.drop_drop]
  rw [hwid, if_neg (by have := hN.out; omega), hnum] at hff
  replace hff := Lib.hid hff
  clear hwid hnum
  have g0 := Lib.hid (heap_alloc_new w (.cells #[.slice none 0 0, .int .u32 0, .int .i16 0, .int .u16 0, .int .u8 0, .int .u8 0] 66))
  have b0 : Below w.heap.size w (w.alloc (.cells #[.slice none 0 0, .int .u32 0, .int .i16 0, .int .u16 0, .int .u8 0, .int .u8 0] 66)) := (Below.refl _ _).alloc (Nat.le_refl _) _
  have A0 := Lib.hid (hA.later b0)
  replace b0 := Lib.hid b0
  have ex : (.slice A 8 c :: symTail (coffL l) : List Value) = [.slice A 8 c, .int .u32 (num false ((l.drop 8).take 4) : Nat), .int .i16 (IntKind.i16.wrap (num false ((l.drop 12).take 2) : Nat)), .int .u16 (num false ((l.drop 14).take 2) : Nat), .int .u8 (num false ((l.drop 16).take 1) : Nat), .int .u8 (num false ((l.drop 17).take 1) : Nat)] := rfl
  rw [ex]
  clear ex
  go_enter Tryz.func27, Tryz.ntmps27
  go_wp2_with fail
  refine (peCoff_any _).mono ?_
  rintro e w2 ⟨⟨B, rfl, R2⟩, b2⟩
  have A2 := Lib.hid (A0.out.later b2)
  replace g0 := row_later b2 g0
  have hz2 := b2.size
  simp at hz2
  replace b0 := Lib.hid (b0.out.trans (b2.mono (by simp)))
  clear b2 A0
  go_wp2_with fail
  refine (fields_any false A B l [-8, 4, 2, 2, 1, 1] n c 6 6 hN hc hb (Lib.hid (by simp)) (by omega) (Lib.hid (by decide)) w2 A2 (Lib.hid R2)).mono ?_
  rintro e w3 ⟨h | ⟨r, v3, e3, rfl, own3⟩, b3⟩
  · rw [hff.out] at h; cases h.1
  · obtain rfl := Option.some.inj (hff.out.symm.trans e3)
    obtain ⟨C, d3, rfl, hd3, hbC, hC3, hcl⟩ := owns_cellsN own3 (by simp)
    have hne : ¬ C = w.heap.size := by omega
    have hne' : ¬ w.heap.size = C := by omega
    have c0 := hcl 0 _ rfl
    have c1 := hcl 1 _ rfl
    have c2 := hcl 2 _ rfl
    have c3 := hcl 3 _ rfl
    have c4 := hcl 4 _ rfl
    simp only [uv] at c0 c1 c2 c3 c4
    simp only [List.length_cons, List.length_nil, Nat.zero_add, Nat.reduceAdd] at hd3 ⊢
    have W0 := wrap_u32 (l.drop 8)
    have W2 := wrap_u16 (l.drop 14)
    have W3 := wrap_u8 (l.drop 16)
    have W4 := wrap_u8 (l.drop 17)
    have hsl : ∀ W, (Instr.slice 34 (.slice A n c) none (some (.int .i64 8)) none).run Tryz.prog W = .ok (.slice A 8 c) W := fun W => run_slice_to (P := Tryz.prog) Tryz.underlying34 (info_parts Tryz.infoByte).choose_spec.1 A n c 8 (by omega) W
    have g3 := row_later b3 g0
    replace b0 := Lib.hid (b0.out.trans (b3.mono (by omega)))
    have hz3 := b3.size
    clear hcl own3 e3 R2 A2 g0 b3
    have r0 : w3.cell? ⟨w.heap.size, 0, none⟩ = some (.slice none 0 0) := cell_of_row _ _ 0 _ _ _ g3.out
    have f0 : w3.frozen? ⟨w.heap.size, 0, none⟩ = false := frozen_of_row _ _ 0 _ _ g3.out
    have r1 : w3.cell? ⟨w.heap.size, 1, none⟩ = some (.int .u32 0) := cell_of_row _ _ 1 _ _ _ g3.out
    have f1 : w3.frozen? ⟨w.heap.size, 1, none⟩ = false := frozen_of_row _ _ 1 _ _ g3.out
    have r2 : w3.cell? ⟨w.heap.size, 2, none⟩ = some (.int .i16 0) := cell_of_row _ _ 2 _ _ _ g3.out
    have f2 : w3.frozen? ⟨w.heap.size, 2, none⟩ = false := frozen_of_row _ _ 2 _ _ g3.out
    have r3 : w3.cell? ⟨w.heap.size, 3, none⟩ = some (.int .u16 0) := cell_of_row _ _ 3 _ _ _ g3.out
    have f3 : w3.frozen? ⟨w.heap.size, 3, none⟩ = false := frozen_of_row _ _ 3 _ _ g3.out
    have r4 : w3.cell? ⟨w.heap.size, 4, none⟩ = some (.int .u8 0) := cell_of_row _ _ 4 _ _ _ g3.out
    have f4 : w3.frozen? ⟨w.heap.size, 4, none⟩ = false := frozen_of_row _ _ 4 _ _ g3.out
    have r5 : w3.cell? ⟨w.heap.size, 5, none⟩ = some (.int .u8 0) := cell_of_row _ _ 5 _ _ _ g3.out
    have f5 : w3.frozen? ⟨w.heap.size, 5, none⟩ = false := frozen_of_row _ _ 5 _ _ g3.out
    go_wp2_with fail
    go_region_held3 (fun w' => w'.cell? ⟨C, 0, none⟩ = some (.int .u64 (num false ((l.drop 8).take 4) : Nat)) ∧ w'.cell? ⟨C, 1, none⟩ = some (.int .u64 (num false ((l.drop 12).take 2) : Nat)) ∧ w'.cell? ⟨C, 2, none⟩ = some (.int .u64 (num false ((l.drop 14).take 2) : Nat)) ∧ w'.cell? ⟨C, 3, none⟩ = some (.int .u64 (num false ((l.drop 16).take 1) : Nat)) ∧ w'.cell? ⟨C, 4, none⟩ = some (.int .u64 (num false ((l.drop 17).take 1) : Nat))) (go_keep) (fail)
    have hc := chg6 (.slice A 8 c) (.int .u32 (num false ((l.drop 8).take 4) : Nat)) (.int .i16 (IntKind.i16.wrap (num false ((l.drop 12).take 2) : Nat))) (.int .u16 (num false ((l.drop 14).take 2) : Nat)) (.int .u8 (num false ((l.drop 16).take 1) : Nat)) (.int .u8 (num false ((l.drop 17).take 1) : Nat)) w.heap.size w3
    replace hc := Lib.hid hc
    go_wp2_with fail
    exact bodyPost_ret (v := .tuple #[.agg #[.slice A 8 c, .int .u32 (num false ((l.drop 8).take 4) : Nat), .int .i16 (IntKind.i16.wrap (num false ((l.drop 12).take 2) : Nat)), .int .u16 (num false ((l.drop 14).take 2) : Nat), .int .u8 (num false ((l.drop 16).take 1) : Nat), .int .u8 (num false ((l.drop 17).take 1) : Nat)], .bool true]) (by simp [results, Tryz.results27, go_sem, r0, r1, r2, r3, r4, r5]) rfl ⟨rfl, b0.out.trans ((hc.out.below (by omega) (fun k hk e => by omega)).drew)⟩

open Go Go.RowKit
attribute [local go_sem ↓] Go.wp_at_zero Go.wp_at_succ

theorem RT.take {T : TypeId} {w : World} {A : Option Addr} {n : Nat} {vs : List Value} (h : RT w T A 1 n vs) (k : Nat) (hk : k ≤ n) : RT w T A 1 k (vs.take k) :=
  ⟨by have := h.1; simp; omega, fun h0 => by
    obtain ⟨g, o, cur, fr, hA, hg, hc⟩ := h.2 (by omega)
    refine ⟨g, o, cur, fr, hA, hg, fun j u hu => hc j u ?_⟩
    rw [List.getElem?_take] at hu
    split at hu
    · exact hu
    · cases hu⟩

theorem zeroed_at {cur : Array Value} {m : List UInt8} (h18 : m.length = 18) (hcs : 18 ≤ cur.size) (hc : ∀ (j : Nat) (u : Value), (m.map bv)[j]? = some u → cur[j]? = some u) (j : Nat) (u : Value) (hu : ((m.take 15 ++ [0, 0, 0]).map bv)[j]? = some u) :
    (((cur.setIfInBounds 15 (.int .u8 0)).setIfInBounds 16 (.int .u8 0)).setIfInBounds 17 (.int .u8 0))[0 + j]? = some u := by
  rw [List.map_append] at hu
  rw [Nat.zero_add]
  by_cases hj : j < 15
  · rw [List.getElem?_append_left (by simp; omega), List.map_take, List.getElem?_take, if_pos hj] at hu
    rw [Array.getElem?_setIfInBounds, if_neg (by omega), Array.getElem?_setIfInBounds, if_neg (by omega), Array.getElem?_setIfInBounds, if_neg (by omega)]
    exact hc j u hu
  · rw [List.getElem?_append_right (by simp; omega)] at hu
    have hl : ((m.take 15).map bv).length = 15 := by simp; omega
    rw [hl] at hu
    have hj3 : j - 15 < 3 := by simpa using (List.getElem?_eq_some_iff.1 hu).1
    have : j = 15 ∨ j = 16 ∨ j = 17 := by omega
    rcases this with rfl | rfl | rfl
    · obtain rfl : bv 0 = u := by simpa using hu
      rw [Array.getElem?_setIfInBounds, if_neg (by omega), Array.getElem?_setIfInBounds, if_neg (by omega), Array.getElem?_setIfInBounds, if_pos rfl, if_pos (by omega)]; rfl
    · obtain rfl : bv 0 = u := by simpa using hu
      rw [Array.getElem?_setIfInBounds, if_neg (by omega), Array.getElem?_setIfInBounds, if_pos rfl, if_pos (by simp; omega)]; rfl
    · obtain rfl : bv 0 = u := by simpa using hu
      rw [Array.getElem?_setIfInBounds, if_pos rfl, if_pos (by simp; omega)]; rfl

theorem RT.zeroed {w : World} {T : TypeId} {g : Nat} {cur : Array Value} {m : List UInt8} (hg : w.heap[g]? = some (.cells cur T (0, 0))) (h18 : m.length = 18) (hcs : 18 ≤ cur.size) (hc : ∀ (j : Nat) (u : Value), (m.map bv)[j]? = some u → cur[j]? = some u) :
    RT (((w.setCell ⟨g, 15, none⟩ (.int .u8 0)).setCell ⟨g, 16, none⟩ (.int .u8 0)).setCell ⟨g, 17, none⟩ (.int .u8 0)) T (some ⟨g, 0, none⟩) 1 18 ((m.take 15 ++ [0, 0, 0]).map bv) :=
  ⟨by simp; omega, fun _ => ⟨g, 0, _, (0, 0), rfl, heap_setCell_same _ _ _ _ _ _ (heap_setCell_same _ _ _ _ _ _ (heap_setCell_same _ _ _ _ _ _ hg)), zeroed_at h18 hcs hc⟩⟩

theorem coffL_zeroed {m : List UInt8} (h18 : m.length = 18) : coffL (m.take 15 ++ [0, 0, 0]) = auxL m := by
  match m, h18 with
  | [y0, y1, y2, y3, y4, y5, y6, y7, y8, y9, y10, y11, y12, y13, y14, y15, y16, y17], _ =>
    have hy := y14.toNat_lt
    have e : IntKind.u16.wrap ((y14.toNat : Nat) : Int) = (y14.toNat : Int) := IntWalk.u16_in _ (by omega)
    simp [coffL, auxL, num_one, num, Lib.leNat, e]

set_option maxRecDepth 100000 in
set_option maxHeartbeats 1000000 in
theorem slot_aux (A : Option Addr) (l : List UInt8) (n c : Nat) (hN : Hid (n = l.length)) (hc : n ≤ c) (hb : n ≤ 2147483647) (hZ : 18 ≤ n) (w : World) (hA : Hid (RB w A l)) :
    Calls Tryz.prog 20 #[.slice A n c, .bool true] w fun e w' => (∃ vs : List Value, e = .returned (.agg vs.toArray) ∧ IsCoff w' vs (auxL (l.take 18))) ∧ Below w.heap.size w w' := by
  obtain ⟨cc, hcc⟩ : ∃ cc, auxL (l.take 18) = cc := ⟨_, rfl⟩
  rw [hcc]
  obtain ⟨nm, x1, x2, x3, x4, x5⟩ := cc
  replace hcc := Lib.hid hcc
  obtain ⟨i0, hi, hz0, hz1, hz2⟩ := info_parts Tryz.infoByte
  have h18 := Lib.hid (show (l.take 18).length = 18 by have := hN.out; simp; omega)
  have hinfo : (Tryz.prog.info? 66).map (·.size) = some 6 := by kernel_rfl
  replace hinfo := Lib.hid hinfo
  obtain ⟨y15, y16, y17, hy15, hy16, hy17⟩ : ∃ y15 y16 y17, Hid (((l.take 18).map bv)[15]? = some (bv y15)) ∧ Hid (((l.take 18).map bv)[16]? = some (bv y16)) ∧ Hid (((l.take 18).map bv)[17]? = some (bv y17)) := by
    have := h18.out
    match l.take 18, this with
    | [y0, y1, y2, y3, y4, y5, y6, y7, y8, y9, y10, y11, y12, y13, y14, y15, y16, y17], _ => exact ⟨y15, y16, y17, Lib.hid rfl, Lib.hid rfl, Lib.hid rfl⟩
  have hsl := fun W => run_slice_to (P := Tryz.prog) Tryz.underlying34 hi A n c 18 (by omega) W
  have b1 := Lib.hid ((((Below.refl w.heap.size w).alloc (Nat.le_refl _) (.cells #[.slice none 0 0, .int .u32 0, .int .i16 0, .int .u16 0, .int .u8 0, .int .u8 0] 66))).alloc (by simp) (.cells #[] 5))
  have g1 := Lib.hid (heap_alloc2_old w (.cells #[.slice none 0 0, .int .u32 0, .int .i16 0, .int .u16 0, .int .u8 0, .int .u8 0] 66) (.cells #[] 5))
  have own1 : Hid (((w.alloc (.cells #[.slice none 0 0, .int .u32 0, .int .i16 0, .int .u16 0, .int .u8 0, .int .u8 0] 66)).alloc (.cells #[] 5)).ownsRow (w.heap.size + 1) 5 1 (.slice (some ⟨w.heap.size + 1, 0, none⟩) 0 0) 0 []) := by
    have := World.ownsRow_made (w.alloc (.cells #[.slice none 0 0, .int .u32 0, .int .i16 0, .int .u16 0, .int .u8 0, .int .u8 0] 66)) (e := 5) (size := 1) #[] 0 (Nat.le_refl _) (by simp [maxLen]) (by simp)
    rw [World.size_alloc] at this
    exact Lib.hid this
  have A1 := Lib.hid ((hA.out.later b1.out).take 18)
  have hr := A1.out.rc
  rw [h18.out] at hr
  replace hr := Lib.hid hr
  go_enter Tryz.func20, Tryz.ntmps20
  go_wp2_with (at_builtin; refine Stop.mk ?_)
  refine Stop.go ?_
  refine wpList_append_any rfl (.tmp 8) (.tmp 10) 34 rfl (w.heap.size + 1) 5 i0 (.int .u8 0) 1 1 Tryz.underlying34 hi hz0 hz1 hz2 rfl (by omega) (.slice (some ⟨w.heap.size + 1, 0, none⟩) 0 0) 0 [] rfl own1.out A 18 c ((l.take 18).map bv) rfl hr.out (bv_one _) (by simp only [maxLen]; omega) (by omega) (by simp) ?_
  intro v1 w2 hown hgr hat
  have b2 := Lib.hid (b1.out.grown hgr (by first | omega | (simp; omega)) (fun q hq => by have := (own1.out.lt q hq).1; omega))
  have g2 := Lib.hid (show w2.heap[w.heap.size]? = _ from (Keeps.of_grown own1.out hgr).block _ _ _ _ g1.out (by decide))
  obtain ⟨g, cap, cur, rfl, hgb, G2, hcap, -, hcz, htk⟩ := (hown.2.resolve_left (by rintro ⟨-, h⟩; omega))
  have hcs : 18 ≤ cur.size := by omega
  have hcl := Lib.hid (show ∀ (j : Nat) (u : Value), ((l.take 18).map bv)[j]? = some u → cur[j]? = some u from fun j u hu => by
    simp only [List.nil_append] at htk
    rw [← htk, List.getElem?_take] at hu
    split at hu
    · simpa using hu
    · cases hu)
  replace G2 := Lib.hid G2
  have hgn : w.heap.size ≠ g := by omega
  clear hown hgr hat htk own1 hr A1 g1 b1 hcz
  have c15 : w2.cell? ⟨g, 15, none⟩ = some (.int .u8 (y15.toNat : Int)) := by rw [cell_of_row w2 g 15 _ _ _ G2.out]; exact hcl.out 15 (bv y15) hy15.out
  have c16 : w2.cell? ⟨g, 16, none⟩ = some (.int .u8 (y16.toNat : Int)) := by rw [cell_of_row w2 g 16 _ _ _ G2.out]; exact hcl.out 16 (bv y16) hy16.out
  have c17 : w2.cell? ⟨g, 17, none⟩ = some (.int .u8 (y17.toNat : Int)) := by rw [cell_of_row w2 g 17 _ _ _ G2.out]; exact hcl.out 17 (bv y17) hy17.out
  have R2 := Lib.hid (RT.zeroed G2.out h18.out hcs hcl.out)
  have bz : Hid (Below w.heap.size w (((w2.setCell ⟨g, 15, none⟩ (.int .u8 0)).setCell ⟨g, 16, none⟩ (.int .u8 0)).setCell ⟨g, 17, none⟩ (.int .u8 0))) := Lib.hid (by
    refine Below.setCell (Below.setCell (Below.setCell b2.out ?_ _) ?_ _) ?_ _ <;> (show w.heap.size ≤ g; omega))
  have GW := Lib.hid (((heap_setCell_other ((w2.setCell ⟨g, 15, none⟩ (.int .u8 0)).setCell ⟨g, 16, none⟩ (.int .u8 0)) ⟨g, 17, none⟩ w.heap.size (.int .u8 0) hgn).trans ((heap_setCell_other (w2.setCell ⟨g, 15, none⟩ (.int .u8 0)) ⟨g, 16, none⟩ w.heap.size (.int .u8 0) hgn).trans (heap_setCell_other w2 ⟨g, 15, none⟩ w.heap.size (.int .u8 0) hgn))).trans g2.out)
  have f15 := frozen_of_row w2 g 15 _ _ G2.out
  have f16 := frozen_of_row w2 g 16 _ _ G2.out
  have f17 := frozen_of_row w2 g 17 _ _ G2.out
  have hx := Lib.hid ((coffL_zeroed h18.out).trans hcc.out)
  clear hy15 hy16 hy17
  go_wp2_with fail
  generalize (((w2.setCell ⟨g, 15, none⟩ (.int .u8 0)).setCell ⟨g, 16, none⟩ (.int .u8 0)).setCell ⟨g, 17, none⟩ (.int .u8 0)) = w3 at *
  have hl' := Lib.hid (show 18 = ((l.take 18).take 15 ++ [0, 0, 0]).length by have := h18.out; simp at this; simp; omega)
  refine (specCoff_all (some ⟨g, 0, none⟩) ((l.take 18).take 15 ++ [0, 0, 0]) 18 cap hl' (by omega) (by omega) (by omega) w3 R2.out.bytes).mono ?_
  rintro e w4 ⟨rfl, b4⟩
  have h8 := Lib.hid (coffL_eight (m := (l.take 18).take 15 ++ [0, 0, 0]) (by have := hl'.out; omega))
  have R4 := Lib.hid ((R2.out.take 8 (by omega)).later b4)
  rw [← List.map_take] at R4
  have hnm : Hid (((l.take 18).take 15 ++ [0, 0, 0]).take 8 = (coffL ((l.take 18).take 15 ++ [0, 0, 0])).name) := Lib.hid rfl
  rw [hnm.out] at R4
  rw [hx.out]
  rw [hx.out] at h8 R4
  have G4 := row_later b4 GW
  have b5 := Lib.hid (bz.out.trans (b4.mono bz.out.size))
  have hz4 := b5.out.size
  have hlt4 : w.heap.size < w4.heap.size := (Array.getElem?_eq_some_iff.1 G4.out).1
  clear hl' hnm hx R2 GW b4 bz b2 g2 hcl h18
  simp only [symTail] at *
  have g6 := Lib.hid (heap_alloc_new w4 (.cells #[.slice none 0 0, .int .u32 0, .int .i16 0, .int .u16 0, .int .u8 0, .int .u8 0] 66))
  have b6 : Below w4.heap.size w4 ((w4.alloc (.cells #[.slice none 0 0, .int .u32 0, .int .i16 0, .int .u16 0, .int .u8 0, .int .u8 0] 66)).setRow w4.heap.size #[.slice (some ⟨g, 0, none⟩) 8 cap, .int .u32 x1, .int .i16 x2, .int .u16 x3, .int .u8 x4, .int .u8 x5]) := below_setRow ((Below.refl _ _).alloc (Nat.le_refl _) _) (Nat.le_refl _) _
  have G6 := row_later b6 G4
  have g7 := Lib.hid ((congrArg (fun x : World => x.heap[w4.heap.size]?) (World.setRow_alloc_new w4 #[.slice none 0 0, .int .u32 0, .int .i16 0, .int .u16 0, .int .u8 0, .int .u8 0] #[.slice (some ⟨g, 0, none⟩) 8 cap, .int .u32 x1, .int .i16 x2, .int .u16 x3, .int .u8 x4, .int .u8 x5] 66)).trans (heap_alloc_new w4 _))
  have R6 := Lib.hid (R4.out.later b6)
  have b7 := Lib.hid (b5.out.trans (b6.mono hz4))
  clear b6 b5 R4 G4
  have d0 := World.cell?_of_row g7.out 0 _ rfl
  have d1 := World.cell?_of_row g7.out 1 _ rfl
  have d2 := World.cell?_of_row g7.out 2 _ rfl
  have d3 := World.cell?_of_row g7.out 3 _ rfl
  have d4 := World.cell?_of_row g7.out 4 _ rfl
  have d5 := World.cell?_of_row g7.out 5 _ rfl
  have g8 := Lib.hid (setRow_heap ((w4.alloc (.cells #[.slice none 0 0, .int .u32 0, .int .i16 0, .int .u16 0, .int .u8 0, .int .u8 0] 66)).setRow w4.heap.size #[.slice (some ⟨g, 0, none⟩) 8 cap, .int .u32 x1, .int .i16 x2, .int .u16 x3, .int .u8 x4, .int .u8 x5]) w.heap.size #[.slice none 0 0, .int .u32 0, .int .i16 0, .int .u16 0, .int .u8 0, .int .u8 0] #[.slice (some ⟨g, 0, none⟩) 8 cap, .int .u32 x1, .int .i16 x2, .int .u16 x3, .int .u8 x4, .int .u8 x5] 66 (0, 0) G6.out)
  have hc8 : Chg (· = w.heap.size) ((w4.alloc (.cells #[.slice none 0 0, .int .u32 0, .int .i16 0, .int .u16 0, .int .u8 0, .int .u8 0] 66)).setRow w4.heap.size #[.slice (some ⟨g, 0, none⟩) 8 cap, .int .u32 x1, .int .i16 x2, .int .u16 x3, .int .u8 x4, .int .u8 x5]) (((w4.alloc (.cells #[.slice none 0 0, .int .u32 0, .int .i16 0, .int .u16 0, .int .u8 0, .int .u8 0] 66)).setRow w4.heap.size #[.slice (some ⟨g, 0, none⟩) 8 cap, .int .u32 x1, .int .i16 x2, .int .u16 x3, .int .u8 x4, .int .u8 x5]).setRow w.heap.size #[.slice (some ⟨g, 0, none⟩) 8 cap, .int .u32 x1, .int .i16 x2, .int .u16 x3, .int .u8 x4, .int .u8 x5]) := ⟨rfl, rfl, rfl, by simp, fun k _ hk => setRow_other _ w.heap.size k _ hk⟩
  have R8 := Lib.hid (R6.out.keeps (Keeps.of_chg (e := 66) hc8 (fun k _ hk => by subst hk; exact ⟨_, _, G6.out⟩)) (by decide))
  have b8 := Lib.hid (b7.out.trans (hc8.below (by simp; omega) (fun k hk e => by omega)))
  clear hc8 R6 b7
  go_wp2_with (first | (refine wpList_store_row rfl 66 _ _ rfl w4.heap.size 66 #[.slice none 0 0, .int .u32 0, .int .i16 0, .int .u16 0, .int .u8 0, .int .u8 0] #[.slice (some ⟨g, 0, none⟩) 8 cap, .int .u32 x1, .int .i16 x2, .int .u16 x3, .int .u8 x4, .int .u8 x5] rfl rfl g6.out rfl hinfo.out (List.all_eq_true.1 rfl) ?_) | (refine wpList_store_row rfl 66 _ _ rfl w.heap.size 66 #[.slice none 0 0, .int .u32 0, .int .i16 0, .int .u16 0, .int .u8 0, .int .u8 0] #[.slice (some ⟨g, 0, none⟩) 8 cap, .int .u32 x1, .int .i16 x2, .int .u16 x3, .int .u8 x4, .int .u8 x5] rfl rfl G6.out rfl hinfo.out (List.all_eq_true.1 rfl) ?_))
  exact bodyPost_ret (results_cell_row rfl _ _ w.heap.size 66 #[.slice (some ⟨g, 0, none⟩) 8 cap, .int .u32 x1, .int .i16 x2, .int .u16 x3, .int .u8 x4, .int .u8 x5] (0, 0) _ rfl g8.out Tryz.underlying66 rfl hinfo.out) rfl
    ⟨⟨_, rfl, _, _, rfl, h8.out, R8.out⟩, b8.out⟩

open Go Go.RowKit

section
variable {w0 w : World} {V1 V2 V4 : Nat} {mc hd : List Value} {op : List UInt8} {vo : Value} {tx hs rs : List UInt8} {vt vh vr : Value} {nP nS nC : Nat} {vp vs vc : Value} {pcs scs ccs : List Value}
theorem PS.pushS (h : PS w0 w V1 V2 V4 mc hd op vo tx hs rs vt vh vr nP nS nC vp vs vc pcs scs ccs) {w1 : World} {vs' : Value} {n : Nat} {cs : List Value} (ho : w1.ownsRow w0.heap.size 45 5 vs' n cs) (hg : w.grownBy w1 vs.ownBlock) :
    ∃ w2, w2 = w1.setCell ⟨V4, 5, none⟩ vs' ∧ PS w0 w2 V1 V2 V4 mc hd op vo tx hs rs vt vh vr nP n nC vp vs' vc pcs cs ccs ∧ Keeps 45 w w1 ∧ Keeps 36 w1 w2 := by
  have K := Keeps.of_grown h.s hg
  obtain ⟨c2, h8, h2⟩ := h.v2
  have g4 := K.block _ _ _ _ h.v4 (by decide)
  have b1 := below_grow h.b h.s (Nat.le_refl _) hg h.b.size
  have C := (Chg.refl (· = V4) w1).setCell ⟨V4, 5, none⟩ vs' (.inl rfl)
  have K2 : Keeps 36 w1 (w1.setCell ⟨V4, 5, none⟩ vs') := keeps_set g4
  have hl4 := h.l4
  refine ⟨_, rfl, ⟨owns_keeps (owns_keeps h.t K (by decide)) K2 (by decide), owns_keeps (owns_keeps h.h K (by decide)) K2 (by decide), owns_keeps (owns_keeps h.r K (by decide)) K2 (by decide), h.th, h.tr, h.hr, owns_keeps (owns_keeps h.o K (by decide)) K2 (by decide), h.to, h.ho, h.ro,
    owns_keeps (owns_keeps h.p K (by decide)) K2 (by decide), owns_keeps ho K2 (by decide), owns_keeps (owns_keeps h.c K (by decide)) K2 (by decide), K2.block _ _ _ _ (K.block _ _ _ _ h.v1 (by decide)) (by decide),
    ⟨c2, h8, C.row (K.block _ _ _ _ h2 (by decide)) h.n24⟩, ?_, ?_, h.l1, h.l4, h.n24, h.n4⟩, K, K2⟩
  · rw [heap_setCell_same w1 V4 5 _ _ _ g4]
    have : (hd ++ [vp, vs, vc, .slice none 0 0]).set 5 vs' = hd ++ [vp, vs', vc, .slice none 0 0] := by
      rw [List.set_append_right _ _ (by rw [h.n4]; decide), h.n4]; rfl
    rw [List.setIfInBounds_toArray, this]
  · exact ⟨C.os.trans b1.os, C.tape.trans b1.tape, C.output.trans b1.output, Nat.le_trans b1.size C.size, fun k hk => (C.block k (Nat.lt_of_lt_of_le hk b1.size) (fun e => by omega)).trans (b1.block k hk)⟩
theorem PS.pushC (h : PS w0 w V1 V2 V4 mc hd op vo tx hs rs vt vh vr nP nS nC vp vs vc pcs scs ccs) {w1 : World} {vc' : Value} {n : Nat} {cs : List Value} (ho : w1.ownsRow w0.heap.size 66 6 vc' n cs) (hg : w.grownBy w1 vc.ownBlock) :
    ∃ w2, w2 = w1.setCell ⟨V4, 6, none⟩ vc' ∧ PS w0 w2 V1 V2 V4 mc hd op vo tx hs rs vt vh vr nP nS n vp vs vc' pcs scs cs ∧ Keeps 66 w w1 ∧ Keeps 36 w1 w2 := by
  have K := Keeps.of_grown h.c hg
  obtain ⟨c2, h8, h2⟩ := h.v2
  have g4 := K.block _ _ _ _ h.v4 (by decide)
  have b1 := below_grow h.b h.c (Nat.le_refl _) hg h.b.size
  have C := (Chg.refl (· = V4) w1).setCell ⟨V4, 6, none⟩ vc' (.inl rfl)
  have K2 : Keeps 36 w1 (w1.setCell ⟨V4, 6, none⟩ vc') := keeps_set g4
  have hl4 := h.l4
  refine ⟨_, rfl, ⟨owns_keeps (owns_keeps h.t K (by decide)) K2 (by decide), owns_keeps (owns_keeps h.h K (by decide)) K2 (by decide), owns_keeps (owns_keeps h.r K (by decide)) K2 (by decide), h.th, h.tr, h.hr, owns_keeps (owns_keeps h.o K (by decide)) K2 (by decide), h.to, h.ho, h.ro,
    owns_keeps (owns_keeps h.p K (by decide)) K2 (by decide), owns_keeps (owns_keeps h.s K (by decide)) K2 (by decide), owns_keeps ho K2 (by decide), K2.block _ _ _ _ (K.block _ _ _ _ h.v1 (by decide)) (by decide),
    ⟨c2, h8, C.row (K.block _ _ _ _ h2 (by decide)) h.n24⟩, ?_, ?_, h.l1, h.l4, h.n24, h.n4⟩, K, K2⟩
  · rw [heap_setCell_same w1 V4 6 _ _ _ g4]
    have : (hd ++ [vp, vs, vc, .slice none 0 0]).set 6 vc' = hd ++ [vp, vs, vc', .slice none 0 0] := by
      rw [List.set_append_right _ _ (by rw [h.n4]; decide), h.n4]; rfl
    rw [List.setIfInBounds_toArray, this]
  · exact ⟨C.os.trans b1.os, C.tape.trans b1.tape, C.output.trans b1.output, Nat.le_trans b1.size C.size, fun k hk => (C.block k (Nat.lt_of_lt_of_le hk b1.size) (fun e => by omega)).trans (b1.block k hk)⟩
end

open Go Go.RowKit
attribute [local go_sem ↓] Go.wp_at_zero Go.wp_at_succ
/-- A text is copied to the front of a row. -/
theorem text_copied (g n cap base : Nat) (l : List UInt8) (s : ByteArray) (w : World) (hown : w.ownsRow base 5 1 (.slice (some ⟨g, 0, none⟩) n cap) n (l.map bv)) (hs : s.size ≤ n) (hn : 0 < n) :
    ∃ w2, (∀ ty : TypeId, (Builtin.copy_ #[34, 9] ty #[.slice (some ⟨g, 0, none⟩) n cap, .string s]).run Tryz.prog w = .ok (.int .i64 (s.size : Int)) w2) ∧
      w2.ownsRow base 5 1 (.slice (some ⟨g, 0, none⟩) n cap) n ((s.data.toList ++ l.drop s.size).map bv) ∧ Chg (· = g) w w2 ∧ w2.heap.size = w.heap.size := by
  obtain ⟨hl, h | ⟨g', cap', cur, hv, hbg, hg, hnc, hcm, hcs, htake⟩⟩ := hown
  · simp at h
  simp only [Value.slice.injEq, Option.some.injEq, Addr.mk.injEq, and_true] at hv
  obtain ⟨rfl, -, rfl⟩ := hv
  have hss : s.data.toList.length = s.size := by simp
  have hcp := fun ty => Lib.run_copy_row_string (P := Tryz.prog) w 34 9 ty 5 g 0 n cap s cur 5 Tryz.underlying34 (by kernel_rfl) hg hs (by omega)
  have hbl : l.length = n := by simpa using hl
  refine ⟨_, hcp, ⟨by simp; omega, .inr ⟨g, cap, _, rfl, hbg, setRow_heap w g cur _ _ _ hg, hnc, hcm, ?_, ?_⟩⟩, ⟨rfl, rfl, rfl, by simp, fun k hk hk' => setRow_other _ _ k _ hk'⟩, by simp⟩
  · simp [Lib.byteCells]; omega
  · have h := splice_front cur.toList l s.data.toList n hbl (by omega) (by simpa using htake)
    rw [hss] at h
    have e3 : Lib.byteCells s.data.toList = s.data.toList.map bv := rfl
    rw [e3]
    simpa using h
theorem row_of_owns {w : World} {base g n : Nat} {e : TypeId} {xs : List Value} (h : w.ownsRow base e 1 (.slice (some ⟨g, 0, none⟩) n n) n xs) : w.heap[g]? = some (.cells xs.toArray e (0, 0)) := by
  obtain ⟨hl, h | ⟨g', cap', cur, hv, hbg, hg, hnc, hcm, hcs, htake⟩⟩ := h
  · simp at h
  simp only [Value.slice.injEq, Option.some.injEq, Addr.mk.injEq, and_true] at hv
  obtain ⟨rfl, -, rfl⟩ := hv
  have h2 : cur.toList = xs := by
    rw [← htake, List.take_of_length_le]
    simp
    omega
  rw [hg, ← h2]
theorem splice4 (v : Nat) : splice ((List.replicate 8 (0 : UInt8)).map bv) 4 (((le 4 v).take 4).map bv) = (List.replicate 4 0 ++ le 4 v).map bv := by
  have h : ((le 4 v).map bv).length = 4 := by simp [le_len]
  rw [List.take_of_length_le (Nat.le_of_eq (le_len 4 v))]
  unfold splice
  rw [h]
  simp [List.replicate]
theorem Tryz.infoPSymB : (Tryz.prog.info? 45).map (fun i => (i.zero, i.size, i.bytes)) = some (some (.agg #[.string ⟨#[]⟩, .int .u32 0, .int .i16 0, .int .u16 0, .int .u8 0]), 5, 32) := by kernel_rfl
theorem Tryz.infoSpecCoff : (Tryz.prog.info? 66).map (fun i => (i.zero, i.size, i.bytes)) = some (some (.agg #[.slice none 0 0, .int .u32 0, .int .i16 0, .int .u16 0, .int .u8 0, .int .u8 0]), 6, 40) := by kernel_rfl
/-- The widths of a symbol's record. -/
def coffW : List Int := [-8, 4, 2, 2, 1, 1]
theorem widC : Hid (widthsOk coffW) := Lib.hid (fun k x h => by
  match k with
  | 0 => exact .inr ⟨rfl, by simpa [coffW] using h.symm⟩
  | k + 1 =>
    have h2 : ([4, 2, 2, 1, 1] : List Int)[k]? = some x := h
    have := List.mem_of_getElem? h2
    simp only [List.mem_cons, List.not_mem_nil, or_false] at this
    left
    omega)
theorem cntC : Hid (cntW coffW ≤ 5) := Lib.hid (by decide)
def symN (y : SymL) : List Nat := [y.value, (y.sect % 65536).toNat, y.typ, y.cls, y.aux]
theorem rec_eq (t : List UInt8) (y : SymL) :
    (⟨(symNm t y).toArray⟩ : ByteArray).data.toList ++ (rowB coffW (symN y)).drop (⟨(symNm t y).toArray⟩ : ByteArray).size = recB t y := by
  have h8 := symNm_len t y
  have hsz : (⟨(symNm t y).toArray⟩ : ByteArray).size = 8 := by simp [ByteArray.size, h8]
  have e : rowB coffW (symN y) = List.replicate 8 0 ++ (le 4 y.value ++ (le 2 (y.sect % 65536).toNat ++ (le 2 y.typ ++ (le 1 y.cls ++ le 1 y.aux)))) := by
    simp [coffW, symN, rowB, le]
  rw [e, hsz, List.drop_left' (by simp)]
  rfl
theorem aux_cells (j k : Nat) (hj : j < 255) (hk : k < 256) : (auxB j k).map bv = [.int .u8 ((j : Int) + 1), .int .u8 (k : Int), .int .u8 3, .int .u8 4, .int .u8 5, .int .u8 6, .int .u8 7, .int .u8 8, .int .u8 9, .int .u8 10, .int .u8 11, .int .u8 12, .int .u8 13, .int .u8 14, .int .u8 15, .int .u8 16, .int .u8 17, .int .u8 18] := by
  have h1 : ((j + 1) % 2 ^ 8 : Nat) = j + 1 := Nat.mod_eq_of_lt (by omega)
  have h2 : (k % 2 ^ 8 : Nat) = k := Nat.mod_eq_of_lt (by omega)
  simp [auxB, bv]
  omega
theorem auxsB_next (n k : Nat) : auxsB (n + 1) k = auxsB n k ++ auxB n k := by
  unfold auxsB
  rw [List.range_succ, List.map_append, List.flatten_append]
  simp
/-- What a symbol's record is made of, in memory. -/
@[reducible] def SymS (V G : Nat) (y : SymL) (nm : List UInt8) (w' : World) : Prop :=
  w'.cell? ⟨V, 1, none⟩ = some (.int .u32 y.value) ∧ w'.cell? ⟨V, 2, none⟩ = some (.int .i16 y.sect) ∧ w'.cell? ⟨V, 3, none⟩ = some (.int .u16 y.typ) ∧ w'.cell? ⟨V, 4, none⟩ = some (.int .u8 y.cls) ∧
    (convert 34 9 (.slice (some ⟨G, 0, none⟩) 8 8)).run Tryz.prog w' = .ok (.string ⟨nm.toArray⟩) w'
theorem symS_of {w : World} {V G base : Nat} {y : SymL} {nm : List UInt8} (g : Hid (w.heap[V]? = some (.cells #[.string ⟨y.name.toArray⟩, .int .u32 y.value, .int .i16 y.sect, .int .u16 y.typ, .int .u8 y.cls] 45 (0, 0))))
    (own : Hid (w.ownsRow base 5 1 (.slice (some ⟨G, 0, none⟩) 8 8) 8 (nm.map bv))) : SymS V G y nm w :=
  ⟨World.cell?_of_row g.out 1 _ rfl, World.cell?_of_row g.out 2 _ rfl, World.cell?_of_row g.out 3 _ rfl, World.cell?_of_row g.out 4 _ rfl,
    run_conv_RB Tryz.underlying34 Tryz.underlying5 Tryz.underlying9 (RB.of_slice own.out) (by have := own.out.1; simpa using this.symm)⟩
theorem symS_later {w w' : World} {V G base : Nat} {y : SymL} {nm : List UInt8} (g : Hid (w.heap[V]? = some (.cells #[.string ⟨y.name.toArray⟩, .int .u32 y.value, .int .i16 y.sect, .int .u16 y.typ, .int .u8 y.cls] 45 (0, 0))))
    (own : Hid (w.ownsRow base 5 1 (.slice (some ⟨G, 0, none⟩) 8 8) 8 (nm.map bv))) (hb : Below w.heap.size w w') : Hid (SymS V G y nm w') :=
  Lib.hid (symS_of (row_later hb g) (Lib.hid (owns_later own.out hb)))
/-- A region of a body, by its number. -/
def rgOf (n : Nat) : Code → Option Code
  | .region i ops b => if i = n then some (.region i ops b) else none
  | .loop c => rgOf n c
  | .seq a b => match rgOf n a with
    | some c => some c
    | none => rgOf n b
  | .block _ c => rgOf n c
  | .scope c => rgOf n c
  | .cond _ a b => match rgOf n a with
    | some c => some c
    | none => rgOf n b
  | _ => none
noncomputable def peR (n : Nat) : Code := ((Tryz.f5.body.bind (rgOf n)).getD .skip)

set_option maxRecDepth 1000000 in
set_option maxHeartbeats 4000000 in
/-- A symbol's record is laid. -/
theorem peOf_r44 {u0 u1 u2 u3 u4 u5 u6 u7 u8 u9 u11 u12 u13 u14 u15 u16 u17 u18 u22 u23 u24 u25 u26 u27 u28 u29 u30 u31 u32 u33 u34 u35 u36 u37 u38 u39 u40 u41 u42 u43 u44 u45 u46 u47 u48 u49 u50 u51 u52 u53 u54 u55 u56 u57 u58 u59 u60 u61 u62 u63 u64 u65 u66 u67 u68 u69 u70 u71 u72 u73 u74 u75 u76 u77 u78 u79 u80 u81 u82 u83 u84 u85 u86 u87 u88 u89 u90 u91 u92 u93 u94 u95 u96 u97 u98 u99 u100 u101 u102 u103 u104 u105 u106 u107 u108 u109 u110 u111 u112 u113 u114 u115 u116 u117 u118 u119 u120 u121 u122 u123 u124 u125 u126 u127 u128 u129 u130 u131 u132 u133 u134 u135 u136 u137 u138 u139 u140 u141 u142 u143 u144 u145 u146 u147 u148 u149 u150 u151 u152 u153 u154 u155 u156 u157 u158 u159 u160 u161 u162 u163 u164 u165 u166 u167 u168 u169 u170 u171 u172 u173 u174 u175 u176 u177 u178 u179 u180 u181 u182 u183 u184 u185 u186 u187 u188 u189 u190 u191 u192 u193 u194 u195 u196 u197 u198 u199 u200 u201 u202 u203 u204 u205 u206 u207 u208 u209 u210 u211 u212 u213 u214 u215 u216 u217 u218 u219 u220 u221 u222 u223 u224 u225 u226 u227 u228 u229 u230 u231 u232 u233 u234 u235 u236 u237 u238 u239 u240 u241 u242 u243 u244 u245 u246 u247 u248 u249 u250 u251 u252 u253 u254 u255 u256 u257 u258 u259 u260 u261 u262 u263 u264 u265 u266 u267 u268 u269 u270 u271 u272 u273 u274 u275 u276 u277 u278 u279 u280 u281 u282 u283 u284 u285 u286 u287 u288 u289 u290 u291 u292 u293 u294 u295 u296 u297 u298 u299 u300 u301 u302 u303 u304 u305 u306 u307 u308 u309 u310 u311 u312 u313 u314 u315 u316 u317 u318 u319 u320 u321 u322 u323 u324 u325 u326 u327 u328 u329 u330 u331 u332 u333 u334 u335 u336 u337 u338 u339 u340 u341 u342 u343 u344 u345 u346 u347 u348 u349 u350 u351 u352 u353 u354 u355 u356 u357 u358 u359 u360 u361 u362 u363 u364 : Value} {V12 G base rc : Nat} {RA : Option Addr} {rk nm : List UInt8} {y : SymL} {Sk : SymSt} {w26 : World} {Q : Exit → Act → World → Prop}
    (hr : Hid (w26.ownsRow base 5 1 (.slice RA rk.length rc) rk.length (rk.map bv))) (hbase : base ≤ w26.heap.size) (ap26 : Hid (Apart (.slice RA rk.length rc) (.slice (some ⟨G, 0, none⟩) 8 8)))
    (g26 : Hid (w26.heap[V12]? = some (.cells #[.string ⟨y.name.toArray⟩, .int .u32 y.value, .int .i16 y.sect, .int .u16 y.typ, .int .u8 y.cls] 45 (0, 0))))
    (own26 : Hid (w26.ownsRow G 5 1 (.slice (some ⟨G, 0, none⟩) 8 8) 8 (nm.map bv))) (enm : Hid (symNm Sk.texts y = nm)) (hnm8 : Hid (nm.length = 8)) (hrk : rk.length ≤ 324)
    (y1 : y.value < 4294967296) (y2 : -32768 ≤ y.sect) (y3 : y.sect < 32768) (y4 : y.typ < 65536) (y5 : y.cls < 256) (hax2 : y.aux ≤ 2)
    (hQ : ∀ {c10 t250 t251 t252 t253 t254 t255 t256 t257 t258 t259 t260 t261 t262 t263 t264 t265 t266 t267 t268 t269 t270 t271 t272 : Value} (w29 w30 : World), Below w26.heap.size w26 w29 → w30.ownsRow base 5 1 c10 (rk.length + 18) ((rk ++ recB Sk.texts y).map bv) → w29.grownBy w30 (Value.slice RA rk.length rc).ownBlock →
      (c10.ownBlock = (Value.slice RA rk.length rc).ownBlock ∨ c10.ownBlock = some w29.heap.size) → Q .normal ⟨#[u0, u1, u2, u3, u4, u5, u6, u7, u8, u9, c10, u11, u12, u13, u14, u15, u16, u17, u18, .pointer (some ⟨V12, 0, none⟩), .slice (some ⟨G, 0, none⟩) 8 8, .int .i64 (y.aux : Int), u22, u23, u24, u25, u26, u27, u28, u29, u30, u31, u32, u33, u34, u35, u36, u37, u38, u39, u40, u41, u42, u43, u44, u45, u46, u47, u48, u49, u50, u51, u52, u53, u54, u55, u56, u57, u58, u59, u60, u61, u62, u63, u64, u65, u66, u67, u68, u69, u70, u71, u72, u73, u74, u75, u76, u77, u78, u79, u80, u81, u82, u83, u84, u85, u86, u87, u88, u89, u90, u91, u92, u93, u94, u95, u96, u97, u98, u99, u100, u101, u102, u103, u104, u105, u106, u107, u108, u109, u110, u111, u112, u113, u114, u115, u116, u117, u118, u119, u120, u121, u122, u123, u124, u125, u126, u127, u128, u129, u130, u131, u132, u133, u134, u135, u136, u137, u138, u139, u140, u141, u142, u143, u144, u145, u146, u147, u148, u149, u150, u151, u152, u153, u154, u155, u156, u157, u158, u159, u160, u161, u162, u163, u164, u165, u166, u167, u168, u169, u170, u171, u172, u173, u174, u175, u176, u177, u178, u179, u180, u181, u182, u183, u184, u185, u186, u187, u188, u189, u190, u191, u192, u193, u194, u195, u196, u197, u198, u199, u200, u201, u202, u203, u204, u205, u206, u207, u208, u209, u210, u211, u212, u213, u214, u215, u216, u217, u218, u219, u220, u221, u222, u223, u224, u225, u226, u227, u228, u229, u230, u231, u232, u233, u234, u235, u236, u237, u238, u239, u240, u241, u242, u243, u244, u245, u246, u247, u248, u249, t250, t251, t252, t253, t254, t255, t256, t257, t258, t259, t260, t261, t262, t263, t264, t265, t266, t267, t268, t269, t270, t271, t272, u273, u274, u275, u276, u277, u278, u279, u280, u281, u282, u283, u284, u285, u286, u287, u288, u289, u290, u291, u292, u293, u294, u295, u296, u297, u298, u299, u300, u301, u302, u303, u304, u305, u306, u307, u308, u309, u310, u311, u312, u313, u314, u315, u316, u317, u318, u319, u320, u321, u322, u323, u324, u325, u326, u327, u328, u329, u330, u331, u332, u333, u334, u335, u336, u337, u338, u339, u340, u341, u342, u343, u344, u345, u346, u347, u348, u349, u350, u351, u352, u353, u354, u355, u356, u357, u358, u359, u360, u361, u362, u363, u364], []⟩ w30) :
    Code.wp Tryz.prog (peR 44) Q ⟨#[u0, u1, u2, u3, u4, u5, u6, u7, u8, u9, .slice RA rk.length rc, u11, u12, u13, u14, u15, u16, u17, u18, .pointer (some ⟨V12, 0, none⟩), .slice (some ⟨G, 0, none⟩) 8 8, .int .i64 (y.aux : Int), u22, u23, u24, u25, u26, u27, u28, u29, u30, u31, u32, u33, u34, u35, u36, u37, u38, u39, u40, u41, u42, u43, u44, u45, u46, u47, u48, u49, u50, u51, u52, u53, u54, u55, u56, u57, u58, u59, u60, u61, u62, u63, u64, u65, u66, u67, u68, u69, u70, u71, u72, u73, u74, u75, u76, u77, u78, u79, u80, u81, u82, u83, u84, u85, u86, u87, u88, u89, u90, u91, u92, u93, u94, u95, u96, u97, u98, u99, u100, u101, u102, u103, u104, u105, u106, u107, u108, u109, u110, u111, u112, u113, u114, u115, u116, u117, u118, u119, u120, u121, u122, u123, u124, u125, u126, u127, u128, u129, u130, u131, u132, u133, u134, u135, u136, u137, u138, u139, u140, u141, u142, u143, u144, u145, u146, u147, u148, u149, u150, u151, u152, u153, u154, u155, u156, u157, u158, u159, u160, u161, u162, u163, u164, u165, u166, u167, u168, u169, u170, u171, u172, u173, u174, u175, u176, u177, u178, u179, u180, u181, u182, u183, u184, u185, u186, u187, u188, u189, u190, u191, u192, u193, u194, u195, u196, u197, u198, u199, u200, u201, u202, u203, u204, u205, u206, u207, u208, u209, u210, u211, u212, u213, u214, u215, u216, u217, u218, u219, u220, u221, u222, u223, u224, u225, u226, u227, u228, u229, u230, u231, u232, u233, u234, u235, u236, u237, u238, u239, u240, u241, u242, u243, u244, u245, u246, u247, u248, u249, u250, u251, u252, u253, u254, u255, u256, u257, u258, u259, u260, u261, u262, u263, u264, u265, u266, u267, u268, u269, u270, u271, u272, u273, u274, u275, u276, u277, u278, u279, u280, u281, u282, u283, u284, u285, u286, u287, u288, u289, u290, u291, u292, u293, u294, u295, u296, u297, u298, u299, u300, u301, u302, u303, u304, u305, u306, u307, u308, u309, u310, u311, u312, u313, u314, u315, u316, u317, u318, u319, u320, u321, u322, u323, u324, u325, u326, u327, u328, u329, u330, u331, u332, u333, u334, u335, u336, u337, u338, u339, u340, u341, u342, u343, u344, u345, u346, u347, u348, u349, u350, u351, u352, u353, u354, u355, u356, u357, u358, u359, u360, u361, u362, u363, u364], []⟩ w26 := by
  conv => arg 2; whnf
  obtain ⟨sN, hsN⟩ : ∃ sN : Nat, (y.sect % 65536).toNat = sN := ⟨_, rfl⟩
  have hw1 : IntKind.u16.wrap y.sect = (sN : Int) := by rw [IntKind.wrap_u16]; omega
  have hsN6 : sN < 65536 := by omega
  have hv1 : IntKind.u64.wrap (y.value : Int) = (y.value : Int) := by rw [IntKind.wrap_u64]; omega
  have hv2 : IntKind.u64.wrap (sN : Int) = (sN : Int) := by rw [IntKind.wrap_u64]; omega
  have hv3 : IntKind.u64.wrap (y.typ : Int) = (y.typ : Int) := by rw [IntKind.wrap_u64]; omega
  have hv4 : IntKind.u64.wrap (y.cls : Int) = (y.cls : Int) := by rw [IntKind.wrap_u64]; omega
  have hv5 : IntKind.u64.wrap (y.aux : Int) = (y.aux : Int) := by rw [IntKind.wrap_u64]; omega
  have esym : Hid ((symN y).map uv = [.int .u64 (y.value : Int), .int .u64 (sN : Int), .int .u64 (y.typ : Int), .int .u64 (y.cls : Int), .int .u64 (y.aux : Int)]) := Lib.hid (by unfold symN; rw [hsN]; rfl)
  have hbnd : Hid (∀ v ∈ symN y, v ≤ 18446744073709551615) := Lib.hid (fun v hv => by
    simp only [symN, List.mem_cons, List.not_mem_nil, or_false] at hv
    omega)
  obtain ⟨rb, erb⟩ : ∃ rb, rowB coffW (symN y) = rb := ⟨_, rfl⟩
  have hrb : Hid (rb.length = 18) := Lib.hid (by rw [← erb, rowB_len]; decide)
  have erec : Hid ((⟨nm.toArray⟩ : ByteArray).data.toList ++ rb.drop (⟨nm.toArray⟩ : ByteArray).size = recB Sk.texts y) := Lib.hid (by
    rw [← erb, ← enm.out]
    exact rec_eq _ _)
  have hnms : Hid ((⟨nm.toArray⟩ : ByteArray).size = 8) := Lib.hid (by simp [ByteArray.size, hnm8.out])
  replace erb := Lib.hid erb
  replace hsN := Lib.hid hsN
  have RNn : ∀ W : World, Hid (RC (W.alloc (.cells #[.int .u64 (y.value : Int), .int .u64 (sN : Int), .int .u64 (y.typ : Int), .int .u64 (y.cls : Int), .int .u64 (y.aux : Int)] 54)) (some ⟨W.heap.size, 0, none⟩) 1 5 ((symN y).map uv)) := fun W => Lib.hid (by rw [esym.out]; exact rc_newN rfl rfl)
  have S0d : Hid (SymS V12 G y nm w26.drew) := symS_later g26 own26 (Below.refl _ w26).drew
  have S0a : Hid (∀ o, SymS V12 G y nm (w26.alloc o).drew) := Lib.hid (fun o => (symS_later g26 own26 (((Below.refl _ w26).alloc (Nat.le_refl _) o).drew)).out)
  go_region_held3 (fun w' => w'.cell? ⟨V12, 1, none⟩ = some (.int .u32 y.value) ∧ w'.cell? ⟨V12, 2, none⟩ = some (.int .i16 y.sect) ∧ w'.cell? ⟨V12, 3, none⟩ = some (.int .u16 y.typ) ∧ w'.cell? ⟨V12, 4, none⟩ = some (.int .u8 y.cls) ∧ (convert 34 9 (.slice (some ⟨G, 0, none⟩) 8 8)).run Tryz.prog w' = .ok (.string ⟨nm.toArray⟩) w')
    (first | with_reducible exact S0d.out | with_reducible exact S0a.out _ | with_reducible exact S1.out | with_reducible exact S1a.out _ | with_reducible exact S2.out | with_reducible exact S3.out | with_reducible exact S4.out | go_keep)
    (first
      | (go_at_call 19; refine (peCoffW_any _).mono ?_; rintro e w27 ⟨⟨vw, rfl, RW'⟩, b27'⟩; have b27 : Hid (Below w26.heap.size w26 w27) := Lib.hid (by first | exact und b27' | exact ((Below.refl _ w26).alloc (Nat.le_refl _) _).trans ((und b27').mono (by simp))); have S1 := symS_later g26 own26 b27.out; have S1a : Hid (∀ o, SymS V12 G y nm (w27.alloc o)) := Lib.hid (fun o => (symS_later g26 own26 (b27.out.alloc b27.out.size o)).out); have RWb := Lib.hid RW'; have RWa := fun o => Lib.hid (rc_later RW' ((Below.refl _ w27).alloc (Nat.le_refl _) o)); (try have RNb : Hid (RC w27 (some ⟨w26.heap.size, 0, none⟩) 1 5 ((symN y).map uv)) := Lib.hid (rc_later (RNn w26).out (und b27'))); clear RW' b27')
      | (go_at_call 12; refine (specRow_any vw (some ⟨w26.heap.size, 0, none⟩) 6 6 5 5 coffW (symN y) _ widC cntC (by omega) (by omega) (by omega) hbnd RWb RNb).mono ?_; rintro e w28 ⟨⟨vn, rfl, own28'⟩, b28'⟩; have b28 : Hid (Below w26.heap.size w26 w28) := Lib.hid (b27.out.trans (b28'.mono b27.out.size)); rw [erb.out, hrb.out] at own28'; have own28 : Hid (w28.ownsRow w26.heap.size 5 1 vn 18 (rb.map bv)) := Lib.hid (owns_mono own28'.out (by first | exact b27.out.size | (have := b27.out.size; simp; omega))); obtain ⟨gN, capN, rfl, hcn, hgN, hgl, -⟩ := owns_cellsN own28.out (by omega); have S2 := symS_later g26 own26 b28.out; clear own28' b28')
      | (go_at_call 12; refine (specRow_any vw (some ⟨w27.heap.size, 0, none⟩) 6 6 5 5 coffW (symN y) _ widC cntC (by omega) (by omega) (by omega) hbnd (RWa _) (RNn _)).mono ?_; rintro e w28 ⟨⟨vn, rfl, own28'⟩, b28'⟩; have b28 : Hid (Below w26.heap.size w26 w28) := Lib.hid (b27.out.trans ((((Below.refl _ w27).alloc (Nat.le_refl _) _).trans (b28'.mono (by simp))).mono b27.out.size)); rw [erb.out, hrb.out] at own28'; have own28 : Hid (w28.ownsRow w26.heap.size 5 1 vn 18 (rb.map bv)) := Lib.hid (owns_mono own28'.out (by first | exact b27.out.size | (have := b27.out.size; simp; omega))); obtain ⟨gN, capN, rfl, hcn, hgN, hgl, -⟩ := owns_cellsN own28.out (by omega); have S2 := symS_later g26 own26 b28.out; clear own28' b28')
      | (go_at_call 16; refine (named_any gN 18 capN w26.heap.size rb ⟨nm.toArray⟩ w28 own28 (by rw [hnms.out]; omega) (by omega)).mono ?_; rintro e w29 ⟨rfl, own29, C29, z29⟩; have b29 : Hid (Below w26.heap.size w26 w29) := Lib.hid (b28.out.trans (C29.below b28.out.size (fun q hq e => by omega))); have S3 := symS_later g26 own26 b29.out; have R29 := owns_later hr.out b29.out; have RH : Hid (RB w29 (some ⟨gN, 0, none⟩) (recB Sk.texts y)) := Lib.hid (RB.of_slice (by have h := own29.out; rw [erec.out] at h; rw [← recB_len Sk.texts y] at h; exact h)); clear C29 z29 own29)
      | (refine step_append_bytes Tryz.underlying34 Tryz.infoByte (by rfl) (.tmp 250) (.tmp 271) (by rfl) base _ _ rk (by rfl) R29 (some ⟨gN, 0, none⟩) 18 capN (recB Sk.texts y) (by rfl) (recB_len _ _).symm RH.out (by omega) (Nat.le_trans hbase b29.out.size) ?_; intro v30 w30 own30' g30 at30; have own30n := (ap26.out.kept (owns_later own26.out b29.out) g30 at30).1; have K30 := Keeps.of_grown R29 g30; have S4 : Hid (SymS V12 G y nm w30) := Lib.hid (symS_of (Lib.hid (K30.block _ _ _ _ (row_later b29.out g26).out (by decide))) (Lib.hid own30n)); have O30 := Lib.hid own30'; have G30 := Lib.hid g30; have A30 := Lib.hid at30; clear own30n K30 own30' g30 at30)
      | fail)
  all_goals (exact hQ w29 w30 b29.out O30.out G30.out A30.out)

set_option maxRecDepth 1000000 in
set_option maxHeartbeats 4000000 in
/-- An auxiliary record is pushed. -/
theorem peOf_r49 {u0 u1 u2 u3 u5 u6 u7 u8 u9 u10 u11 u12 u13 u14 u15 u16 u17 u18 u19 u20 u21 u22 u24 u25 u26 u27 u28 u29 u30 u31 u32 u33 u34 u35 u36 u37 u38 u39 u40 u41 u42 u43 u44 u45 u46 u47 u48 u49 u50 u51 u52 u53 u54 u55 u56 u57 u58 u59 u60 u61 u62 u63 u64 u65 u66 u67 u68 u69 u70 u71 u72 u73 u74 u75 u76 u77 u78 u79 u80 u81 u82 u83 u84 u85 u86 u87 u88 u89 u90 u91 u92 u93 u94 u95 u96 u97 u98 u99 u100 u101 u102 u103 u104 u105 u106 u107 u108 u109 u110 u111 u112 u113 u114 u115 u116 u117 u118 u119 u120 u121 u122 u123 u124 u125 u126 u127 u128 u129 u130 u131 u132 u133 u134 u135 u136 u137 u138 u139 u140 u141 u142 u143 u144 u145 u146 u147 u148 u149 u150 u151 u152 u153 u154 u155 u156 u157 u158 u159 u160 u161 u162 u163 u164 u165 u166 u167 u168 u169 u170 u171 u172 u173 u174 u175 u176 u177 u178 u179 u180 u181 u182 u183 u184 u185 u186 u187 u188 u189 u190 u191 u192 u193 u194 u195 u196 u197 u198 u199 u200 u201 u202 u203 u204 u205 u206 u207 u208 u209 u210 u211 u212 u213 u214 u215 u216 u217 u218 u219 u220 u221 u222 u223 u224 u225 u226 u227 u228 u229 u230 u231 u232 u233 u234 u235 u236 u237 u238 u239 u240 u241 u242 u243 u244 u245 u246 u247 u248 u249 u250 u251 u252 u253 u254 u255 u256 u257 u258 u259 u260 u261 u262 u263 u264 u265 u266 u267 u268 u269 u270 u271 u272 u273 u274 u275 u276 u277 u278 u279 u280 u281 u282 u283 u284 u285 u286 u287 u288 u289 u290 u291 u292 u293 u294 u295 u296 u297 u298 u299 u300 u301 u302 u303 u304 u305 u306 u307 u308 u309 u310 u311 u312 u313 u314 u315 u316 u317 u318 u319 u320 u321 u322 u323 u324 u325 u326 u327 u328 u329 u330 u331 u332 u333 u334 u335 u336 u337 u338 u339 u340 u341 u342 u343 u344 u345 u346 u347 u348 u349 u350 u351 u352 u353 u354 u355 u356 u357 u358 u359 u360 u361 u362 u363 u364 : Value} {V4 GA base n vcc2 : Nat} {VC2 : Option Addr} {b : List UInt8} {cs' row4 : List Value} {wA : World} {Q : Exit → Act → World → Prop}
    (hc : Hid (wA.ownsRow base 66 6 (.slice VC2 n vcc2) n cs')) (hbase : base ≤ wA.heap.size) (g4 : Hid (wA.heap[V4]? = some (.cells row4.toArray 36 (0, 0)))) (h6 : row4[6]? = some (.slice VC2 n vcc2)) (hn : n ≤ 40)
    (RTA : Hid (RT wA 5 (some ⟨GA, 0, none⟩) 1 18 (b.map bv))) (hbl : Hid (18 = b.length))
    (hQ : ∀ {t283 t284 t285 t286 t287 t288 t289 : Value} (w32 w33 : World) (o : Obj) (vc2 : Value) (cs2 : List Value), Below wA.heap.size wA w32 → w33.ownsRow base 66 6 vc2 (n + 1) cs2 → (w32.alloc o).grownBy w33 (Value.slice VC2 n vcc2).ownBlock →
      Q .normal ⟨#[u0, u1, u2, u3, .pointer (some ⟨V4, 0, none⟩), u5, u6, u7, u8, u9, u10, u11, u12, u13, u14, u15, u16, u17, u18, u19, u20, u21, u22, .slice (some ⟨GA, 0, none⟩) 18 18, u24, u25, u26, u27, u28, u29, u30, u31, u32, u33, u34, u35, u36, u37, u38, u39, u40, u41, u42, u43, u44, u45, u46, u47, u48, u49, u50, u51, u52, u53, u54, u55, u56, u57, u58, u59, u60, u61, u62, u63, u64, u65, u66, u67, u68, u69, u70, u71, u72, u73, u74, u75, u76, u77, u78, u79, u80, u81, u82, u83, u84, u85, u86, u87, u88, u89, u90, u91, u92, u93, u94, u95, u96, u97, u98, u99, u100, u101, u102, u103, u104, u105, u106, u107, u108, u109, u110, u111, u112, u113, u114, u115, u116, u117, u118, u119, u120, u121, u122, u123, u124, u125, u126, u127, u128, u129, u130, u131, u132, u133, u134, u135, u136, u137, u138, u139, u140, u141, u142, u143, u144, u145, u146, u147, u148, u149, u150, u151, u152, u153, u154, u155, u156, u157, u158, u159, u160, u161, u162, u163, u164, u165, u166, u167, u168, u169, u170, u171, u172, u173, u174, u175, u176, u177, u178, u179, u180, u181, u182, u183, u184, u185, u186, u187, u188, u189, u190, u191, u192, u193, u194, u195, u196, u197, u198, u199, u200, u201, u202, u203, u204, u205, u206, u207, u208, u209, u210, u211, u212, u213, u214, u215, u216, u217, u218, u219, u220, u221, u222, u223, u224, u225, u226, u227, u228, u229, u230, u231, u232, u233, u234, u235, u236, u237, u238, u239, u240, u241, u242, u243, u244, u245, u246, u247, u248, u249, u250, u251, u252, u253, u254, u255, u256, u257, u258, u259, u260, u261, u262, u263, u264, u265, u266, u267, u268, u269, u270, u271, u272, u273, u274, u275, u276, u277, u278, u279, u280, u281, u282, t283, t284, t285, t286, t287, t288, t289, u290, u291, u292, u293, u294, u295, u296, u297, u298, u299, u300, u301, u302, u303, u304, u305, u306, u307, u308, u309, u310, u311, u312, u313, u314, u315, u316, u317, u318, u319, u320, u321, u322, u323, u324, u325, u326, u327, u328, u329, u330, u331, u332, u333, u334, u335, u336, u337, u338, u339, u340, u341, u342, u343, u344, u345, u346, u347, u348, u349, u350, u351, u352, u353, u354, u355, u356, u357, u358, u359, u360, u361, u362, u363, u364], []⟩ (w33.setCell ⟨V4, 6, none⟩ vc2)) :
    Code.wp Tryz.prog (peR 49) Q ⟨#[u0, u1, u2, u3, .pointer (some ⟨V4, 0, none⟩), u5, u6, u7, u8, u9, u10, u11, u12, u13, u14, u15, u16, u17, u18, u19, u20, u21, u22, .slice (some ⟨GA, 0, none⟩) 18 18, u24, u25, u26, u27, u28, u29, u30, u31, u32, u33, u34, u35, u36, u37, u38, u39, u40, u41, u42, u43, u44, u45, u46, u47, u48, u49, u50, u51, u52, u53, u54, u55, u56, u57, u58, u59, u60, u61, u62, u63, u64, u65, u66, u67, u68, u69, u70, u71, u72, u73, u74, u75, u76, u77, u78, u79, u80, u81, u82, u83, u84, u85, u86, u87, u88, u89, u90, u91, u92, u93, u94, u95, u96, u97, u98, u99, u100, u101, u102, u103, u104, u105, u106, u107, u108, u109, u110, u111, u112, u113, u114, u115, u116, u117, u118, u119, u120, u121, u122, u123, u124, u125, u126, u127, u128, u129, u130, u131, u132, u133, u134, u135, u136, u137, u138, u139, u140, u141, u142, u143, u144, u145, u146, u147, u148, u149, u150, u151, u152, u153, u154, u155, u156, u157, u158, u159, u160, u161, u162, u163, u164, u165, u166, u167, u168, u169, u170, u171, u172, u173, u174, u175, u176, u177, u178, u179, u180, u181, u182, u183, u184, u185, u186, u187, u188, u189, u190, u191, u192, u193, u194, u195, u196, u197, u198, u199, u200, u201, u202, u203, u204, u205, u206, u207, u208, u209, u210, u211, u212, u213, u214, u215, u216, u217, u218, u219, u220, u221, u222, u223, u224, u225, u226, u227, u228, u229, u230, u231, u232, u233, u234, u235, u236, u237, u238, u239, u240, u241, u242, u243, u244, u245, u246, u247, u248, u249, u250, u251, u252, u253, u254, u255, u256, u257, u258, u259, u260, u261, u262, u263, u264, u265, u266, u267, u268, u269, u270, u271, u272, u273, u274, u275, u276, u277, u278, u279, u280, u281, u282, u283, u284, u285, u286, u287, u288, u289, u290, u291, u292, u293, u294, u295, u296, u297, u298, u299, u300, u301, u302, u303, u304, u305, u306, u307, u308, u309, u310, u311, u312, u313, u314, u315, u316, u317, u318, u319, u320, u321, u322, u323, u324, u325, u326, u327, u328, u329, u330, u331, u332, u333, u334, u335, u336, u337, u338, u339, u340, u341, u342, u343, u344, u345, u346, u347, u348, u349, u350, u351, u352, u353, u354, u355, u356, u357, u358, u359, u360, u361, u362, u363, u364], []⟩ wA := by
  have RBd : Hid (RB wA.drew (some ⟨GA, 0, none⟩) b) := Lib.hid RTA.out.bytes.drew
  have c46 := World.cell?_of_row g4.out 6 _ h6
  obtain ⟨cc, hcc⟩ : ∃ cc, auxL (b.take 18) = cc := ⟨_, rfl⟩
  have CALL := Lib.hid (slot_aux (some ⟨GA, 0, none⟩) b 18 18 hbl (by omega) (by omega) (by omega) wA.drew RBd)
  rw [hcc] at CALL
  clear hcc RBd
  obtain ⟨cn, c1, c2, c3, c4, c5⟩ := cc
  obtain ⟨iC, hiC, hC0, hC1, hC2⟩ := info_parts Tryz.infoSpecCoff
  conv => arg 2; whnf
  refine wp_region_noPanic ?_
  go_region_law (first
    | (refine step_append_any (by rfl) (.tmp 284) (.tmp 287) 33 (by rfl) base 66 iC _ 6 40 Tryz.underlying33 hiC hC0 hC1 hC2 rfl (by omega) _ n cs' (by rfl) (hc32a _) (some ⟨w32.heap.size, 0, none⟩) 1 1 [.slice AQ 8 kk, .int .u32 c1, .int .i16 c2, .int .u16 c3, .int .u8 c4, .int .u8 c5] (by rfl) (rc_newN rfl rfl) (List.all_eq_true.1 rfl) (by simp only [maxLen]; omega) (by omega) (by have := b32.out.size; simp; omega) ?_; intro v33 w33 own33 g33 at33; obtain ⟨VE, vec, rfl, -, -, -⟩ := RT.of_owns own33; have K33 := Keeps.of_grown (hc32a _) g33; have g4d := K33.block _ _ _ _ (g432a _).out (by decide); have c46d := World.cell?_of_row g4d 6 _ h6; have f46d := frozen_of_row _ V4 6 _ _ g4d; have O33 := Lib.hid own33; have G33 := Lib.hid g33; clear own33 g33 at33 K33 g4d)
    | (go_simp; go_at_call 20; refine CALL.out.mono ?_; rintro e w32 ⟨⟨vs2, rfl, ⟨AQ, kk, rfl, -, -⟩⟩, b32'⟩; have b32 : Hid (Below wA.heap.size wA w32) := Lib.hid (und b32'); have hc32a := fun o => owns_later (owns_later hc.out b32.out) ((Below.refl _ w32).alloc (Nat.le_refl _) o); have g432 := row_later b32.out g4; have g432a := fun o => row_later ((Below.refl _ w32).alloc (Nat.le_refl _) o) g432; have c46b := World.cell?_of_row g432.out 6 _ h6; have c46c := fun o => World.cell?_of_row (g432a o).out 6 _ h6; simp only [symTail]; clear b32')
    | fail)
  all_goals (exact NoPanic.normal (hQ w32 w33 _ _ _ b32.out O33.out G33.out))

set_option maxRecDepth 1000000 in
set_option maxHeartbeats 4000000 in
/-- Where a long name stands among the texts. -/
theorem peOf_r38 {u0 u1 u2 u3 u4 u5 u6 u7 u9 u10 u11 u12 u13 u14 u15 u16 u17 u18 u19 u21 u22 u23 u24 u25 u26 u27 u28 u29 u30 u31 u32 u33 u34 u35 u36 u37 u38 u39 u40 u41 u42 u43 u44 u45 u46 u47 u48 u49 u50 u51 u52 u53 u54 u55 u56 u57 u58 u59 u60 u61 u62 u63 u64 u65 u66 u67 u68 u69 u70 u71 u72 u73 u74 u75 u76 u77 u78 u79 u80 u81 u82 u83 u84 u85 u86 u87 u88 u89 u90 u91 u92 u93 u94 u95 u96 u97 u98 u99 u100 u101 u102 u103 u104 u105 u106 u107 u108 u109 u110 u111 u112 u113 u114 u115 u116 u117 u118 u119 u120 u121 u122 u123 u124 u125 u126 u127 u128 u129 u130 u131 u132 u133 u134 u135 u136 u137 u138 u139 u140 u141 u142 u143 u144 u145 u146 u147 u148 u149 u150 u151 u152 u153 u154 u155 u156 u157 u158 u159 u160 u161 u162 u163 u164 u165 u166 u167 u168 u169 u170 u171 u172 u173 u174 u175 u176 u177 u178 u179 u180 u181 u182 u183 u184 u185 u186 u187 u188 u189 u190 u191 u192 u193 u194 u195 u196 u197 u198 u199 u200 u201 u202 u203 u204 u205 u206 u207 u208 u209 u210 u211 u212 u213 u214 u215 u216 u217 u218 u219 u220 u221 u222 u223 u224 u225 u226 u227 u228 u229 u230 u231 u232 u233 u234 u235 u236 u237 u238 u239 u240 u241 u242 u243 u244 u245 u246 u247 u248 u249 u250 u251 u252 u253 u254 u255 u256 u257 u258 u259 u260 u261 u262 u263 u264 u265 u266 u267 u268 u269 u270 u271 u272 u273 u274 u275 u276 u277 u278 u279 u280 u281 u282 u283 u284 u285 u286 u287 u288 u289 u290 u291 u292 u293 u294 u295 u296 u297 u298 u299 u300 u301 u302 u303 u304 u305 u306 u307 u308 u309 u310 u311 u312 u313 u314 u315 u316 u317 u318 u319 u320 u321 u322 u323 u324 u325 u326 u327 u328 u329 u330 u331 u332 u333 u334 u335 u336 u337 u338 u339 u340 u341 u342 u343 u344 u345 u346 u347 u348 u349 u350 u351 u352 u353 u354 u355 u356 u357 u358 u359 u360 u361 u362 u363 u364 : Value} {G tl tc : Nat} {TA : Option Addr} {wc : World} {Q : Exit → Act → World → Prop}
    (row0 : Hid (wc.heap[G]? = some (.cells ((List.replicate 8 (0 : UInt8)).map bv).toArray 5 (0, 0)))) (htl : tl ≤ 200)
    (hQ : ∀ {t204 t205 t206 t207 t208 t209 t210 t211 : Value} (w17 w18 : World), Below wc.heap.size wc w17 → w18.heap[G]? = some (.cells ((List.replicate 4 (0 : UInt8) ++ le 4 (4 + tl)).map bv).toArray 5 (0, 0)) → Chg (· = G) w17 w18 → Q .normal ⟨#[u0, u1, u2, u3, u4, u5, u6, u7, .slice TA tl tc, u9, u10, u11, u12, u13, u14, u15, u16, u17, u18, u19, .slice (some ⟨G, 0, none⟩) 8 8, u21, u22, u23, u24, u25, u26, u27, u28, u29, u30, u31, u32, u33, u34, u35, u36, u37, u38, u39, u40, u41, u42, u43, u44, u45, u46, u47, u48, u49, u50, u51, u52, u53, u54, u55, u56, u57, u58, u59, u60, u61, u62, u63, u64, u65, u66, u67, u68, u69, u70, u71, u72, u73, u74, u75, u76, u77, u78, u79, u80, u81, u82, u83, u84, u85, u86, u87, u88, u89, u90, u91, u92, u93, u94, u95, u96, u97, u98, u99, u100, u101, u102, u103, u104, u105, u106, u107, u108, u109, u110, u111, u112, u113, u114, u115, u116, u117, u118, u119, u120, u121, u122, u123, u124, u125, u126, u127, u128, u129, u130, u131, u132, u133, u134, u135, u136, u137, u138, u139, u140, u141, u142, u143, u144, u145, u146, u147, u148, u149, u150, u151, u152, u153, u154, u155, u156, u157, u158, u159, u160, u161, u162, u163, u164, u165, u166, u167, u168, u169, u170, u171, u172, u173, u174, u175, u176, u177, u178, u179, u180, u181, u182, u183, u184, u185, u186, u187, u188, u189, u190, u191, u192, u193, u194, u195, u196, u197, u198, u199, u200, u201, u202, u203, t204, t205, t206, t207, t208, t209, t210, t211, u212, u213, u214, u215, u216, u217, u218, u219, u220, u221, u222, u223, u224, u225, u226, u227, u228, u229, u230, u231, u232, u233, u234, u235, u236, u237, u238, u239, u240, u241, u242, u243, u244, u245, u246, u247, u248, u249, u250, u251, u252, u253, u254, u255, u256, u257, u258, u259, u260, u261, u262, u263, u264, u265, u266, u267, u268, u269, u270, u271, u272, u273, u274, u275, u276, u277, u278, u279, u280, u281, u282, u283, u284, u285, u286, u287, u288, u289, u290, u291, u292, u293, u294, u295, u296, u297, u298, u299, u300, u301, u302, u303, u304, u305, u306, u307, u308, u309, u310, u311, u312, u313, u314, u315, u316, u317, u318, u319, u320, u321, u322, u323, u324, u325, u326, u327, u328, u329, u330, u331, u332, u333, u334, u335, u336, u337, u338, u339, u340, u341, u342, u343, u344, u345, u346, u347, u348, u349, u350, u351, u352, u353, u354, u355, u356, u357, u358, u359, u360, u361, u362, u363, u364], []⟩ w18) :
    Code.wp Tryz.prog (peR 38) Q ⟨#[u0, u1, u2, u3, u4, u5, u6, u7, .slice TA tl tc, u9, u10, u11, u12, u13, u14, u15, u16, u17, u18, u19, .slice (some ⟨G, 0, none⟩) 8 8, u21, u22, u23, u24, u25, u26, u27, u28, u29, u30, u31, u32, u33, u34, u35, u36, u37, u38, u39, u40, u41, u42, u43, u44, u45, u46, u47, u48, u49, u50, u51, u52, u53, u54, u55, u56, u57, u58, u59, u60, u61, u62, u63, u64, u65, u66, u67, u68, u69, u70, u71, u72, u73, u74, u75, u76, u77, u78, u79, u80, u81, u82, u83, u84, u85, u86, u87, u88, u89, u90, u91, u92, u93, u94, u95, u96, u97, u98, u99, u100, u101, u102, u103, u104, u105, u106, u107, u108, u109, u110, u111, u112, u113, u114, u115, u116, u117, u118, u119, u120, u121, u122, u123, u124, u125, u126, u127, u128, u129, u130, u131, u132, u133, u134, u135, u136, u137, u138, u139, u140, u141, u142, u143, u144, u145, u146, u147, u148, u149, u150, u151, u152, u153, u154, u155, u156, u157, u158, u159, u160, u161, u162, u163, u164, u165, u166, u167, u168, u169, u170, u171, u172, u173, u174, u175, u176, u177, u178, u179, u180, u181, u182, u183, u184, u185, u186, u187, u188, u189, u190, u191, u192, u193, u194, u195, u196, u197, u198, u199, u200, u201, u202, u203, u204, u205, u206, u207, u208, u209, u210, u211, u212, u213, u214, u215, u216, u217, u218, u219, u220, u221, u222, u223, u224, u225, u226, u227, u228, u229, u230, u231, u232, u233, u234, u235, u236, u237, u238, u239, u240, u241, u242, u243, u244, u245, u246, u247, u248, u249, u250, u251, u252, u253, u254, u255, u256, u257, u258, u259, u260, u261, u262, u263, u264, u265, u266, u267, u268, u269, u270, u271, u272, u273, u274, u275, u276, u277, u278, u279, u280, u281, u282, u283, u284, u285, u286, u287, u288, u289, u290, u291, u292, u293, u294, u295, u296, u297, u298, u299, u300, u301, u302, u303, u304, u305, u306, u307, u308, u309, u310, u311, u312, u313, u314, u315, u316, u317, u318, u319, u320, u321, u322, u323, u324, u325, u326, u327, u328, u329, u330, u331, u332, u333, u334, u335, u336, u337, u338, u339, u340, u341, u342, u343, u344, u345, u346, u347, u348, u349, u350, u351, u352, u353, u354, u355, u356, u357, u358, u359, u360, u361, u362, u363, u364], []⟩ wc := by
  have hBy := Lib.hid (fun W => specBytes_any false 4 (4 + tl) (by omega) (by omega) W)
  have e4 : ((4 + tl : Nat) : Int) = 4 + (tl : Int) := by omega
  rw [e4] at hBy
  clear e4
  have hw4 : IntKind.i64.wrap (4 + (tl : Int)) = 4 + (tl : Int) := IntWalk.i64_in _ (by omega)
  have hw5 : IntKind.u64.wrap (4 + (tl : Int)) = 4 + (tl : Int) := by rw [IntKind.wrap_u64]; omega
  have hsl : ∀ W, (Instr.slice 34 (.slice (some ⟨G, 0, none⟩) 8 8) (some (.int .i64 4)) none none).run Tryz.prog W = .ok (.slice (some ⟨G, 4, none⟩) 4 4) W := fun W => by
    have h := run_slice_from (P := Tryz.prog) Tryz.underlying34 (info_parts Tryz.infoByte).choose_spec.1 (info_parts Tryz.infoByte).choose_spec.2.2.1 (some ⟨G, 0, none⟩) 8 8 4 .i64 (by omega) W
    rw [slA_some _ _ _ _ (by omega)] at h
    simpa using h
  have hmin : Hid (0 < Nat.min 4 4) := Lib.hid (by decide)
  have hfit : Hid (4 + Nat.min 4 4 ≤ ((List.replicate 8 (0 : UInt8)).map bv).length) := Lib.hid (by decide)
  conv => arg 2; whnf
  go_region_held3 (fun _ => True) (first | trivial | go_keep)
    (first
      | (go_at_call 18; refine (hBy.out _).mono ?_; rintro e w17 ⟨⟨u, rfl, own17⟩, b17'⟩; have b17 : Hid (Below wc.heap.size wc w17) := Lib.hid (und b17'); obtain ⟨-, AL, cL, rfl, RL, hcL, -⟩ := RB.of_owns own17; replace RL := Lib.hid RL; have h17 := row_later b17.out row0; clear own17 b17')
      | (refine step_copy_bytes (by rfl) (.tmp 205) (.tmp 210) 34 34 (by rfl) 5 Tryz.underlying34 Tryz.sizeByte G 4 4 4 AL 4 cL (by rfl) (by rfl) ((List.replicate 8 (0 : UInt8)).map bv) 5 h17 (le 4 (4 + tl)) (le_len 4 _) RL.out hmin.out hfit.out ?_; intro w18 h18 C18 z18)
      | fail)
  rw [splice4] at h18
  exact hQ w17 w18 b17.out h18.out C18

set_option maxRecDepth 1000000 in
set_option maxHeartbeats 4000000 in
/-- The headers and the optional header, the sections headers behind the stub. -/
theorem peOf_r62 {u0 u1 u2 u3 u6 u7 u8 u10 u11 u12 u13 u14 u15 u16 u17 u18 u19 u20 u21 u22 u23 u25 u26 u27 u28 u29 u30 u31 u32 u33 u34 u35 u36 u37 u38 u39 u40 u41 u42 u43 u44 u45 u46 u47 u48 u49 u50 u51 u52 u53 u54 u55 u56 u57 u58 u59 u60 u61 u62 u63 u64 u65 u66 u67 u68 u69 u70 u71 u72 u73 u74 u75 u76 u77 u78 u79 u80 u81 u82 u83 u84 u85 u86 u87 u88 u89 u90 u91 u92 u93 u94 u95 u96 u97 u98 u99 u100 u101 u102 u103 u104 u105 u106 u107 u108 u109 u110 u111 u112 u113 u114 u115 u116 u117 u118 u119 u120 u121 u122 u123 u124 u125 u126 u127 u128 u129 u130 u131 u132 u133 u134 u135 u136 u137 u138 u139 u140 u141 u142 u143 u144 u145 u146 u147 u148 u149 u150 u151 u152 u153 u154 u155 u156 u157 u158 u159 u160 u161 u162 u163 u164 u165 u166 u167 u168 u169 u170 u171 u172 u173 u174 u175 u176 u177 u178 u179 u180 u181 u182 u183 u184 u185 u186 u187 u188 u189 u190 u191 u192 u193 u194 u195 u196 u197 u198 u199 u200 u201 u202 u203 u204 u205 u206 u207 u208 u209 u210 u211 u212 u213 u214 u215 u216 u217 u218 u219 u220 u221 u222 u223 u224 u225 u226 u227 u228 u229 u230 u231 u232 u233 u234 u235 u236 u237 u238 u239 u240 u241 u242 u243 u244 u245 u246 u247 u248 u249 u250 u251 u252 u253 u254 u255 u256 u257 u258 u259 u260 u261 u262 u263 u264 u265 u266 u267 u268 u269 u270 u271 u272 u273 u274 u275 u276 u277 u278 u279 u280 u281 u282 u283 u284 u285 u286 u287 u288 u289 u290 u291 u292 u293 u294 u295 u296 u297 u298 u299 u300 u301 u302 u303 u304 u305 u306 u307 u308 u309 u310 u311 u312 u313 u314 u315 u316 u317 u318 u319 u320 u321 u322 u323 u324 u325 u326 u327 u328 u329 u330 u331 u332 u333 u334 u335 u336 u337 u338 u339 u340 u341 u342 u343 u344 u345 u346 u347 u348 u349 u350 u351 u352 u353 u354 u355 u356 u357 u358 u359 u360 u361 u362 u363 u364 : Value} {V4 GH oc hc fc : Nat} {OA HA FA : Option Addr} {ol hl F : List UInt8} {ns : List Nat} {w6 wc : World} {Q : Exit → Act → World → Prop}
    (ownF : Hid (wc.ownsRow w6.heap.size 5 1 (.slice FA F.length fc) F.length (F.map bv))) (bF : Hid (Below w6.heap.size w6 wc)) (c40 : w6.cell? ⟨V4, 0, none⟩ = some (.slice (some ⟨GH, 0, none⟩) 7 7)) (hV4 : V4 < w6.heap.size)
    (RH : Hid (RC w6 (some ⟨GH, 0, none⟩) 1 7 (ns.map uv))) (hbnd : Hid (∀ v ∈ ns, v ≤ 18446744073709551615)) (hO : Hid (RB w6 OA ol)) (hH : Hid (RB w6 HA hl)) (hf : F.length ≤ 1000) (hol : ol.length ≤ 1000) (hhl : hl.length ≤ 1000)
    (hQ : ∀ {t351 t352 t353 t354 t355 t356 t357 t358 t359 t360 t24 : Value} (y5 : World), y5.ownsRow w6.heap.size 5 1 t24 (F ++ rowB [2, 2, 4, 4, 4, 2, 2] ns ++ ol ++ hl).length ((F ++ rowB [2, 2, 4, 4, 4, 2, 2] ns ++ ol ++ hl).map bv) → Below w6.heap.size w6 y5 → Q .normal ⟨#[u0, u1, u2, u3, .pointer (some ⟨V4, 0, none⟩), .slice OA ol.length oc, u6, u7, u8, .slice HA hl.length hc, u10, u11, u12, u13, u14, u15, u16, u17, u18, u19, u20, u21, u22, u23, t24, u25, u26, u27, u28, u29, u30, u31, u32, u33, u34, u35, u36, u37, u38, u39, u40, u41, u42, u43, u44, u45, u46, u47, u48, u49, u50, u51, u52, u53, u54, u55, u56, u57, u58, u59, u60, u61, u62, u63, u64, u65, u66, u67, u68, u69, u70, u71, u72, u73, u74, u75, u76, u77, u78, u79, u80, u81, u82, u83, u84, u85, u86, u87, u88, u89, u90, u91, u92, u93, u94, u95, u96, u97, u98, u99, u100, u101, u102, u103, u104, u105, u106, u107, u108, u109, u110, u111, u112, u113, u114, u115, u116, u117, u118, u119, u120, u121, u122, u123, u124, u125, u126, u127, u128, u129, u130, u131, u132, u133, u134, u135, u136, u137, u138, u139, u140, u141, u142, u143, u144, u145, u146, u147, u148, u149, u150, u151, u152, u153, u154, u155, u156, u157, u158, u159, u160, u161, u162, u163, u164, u165, u166, u167, u168, u169, u170, u171, u172, u173, u174, u175, u176, u177, u178, u179, u180, u181, u182, u183, u184, u185, u186, u187, u188, u189, u190, u191, u192, u193, u194, u195, u196, u197, u198, u199, u200, u201, u202, u203, u204, u205, u206, u207, u208, u209, u210, u211, u212, u213, u214, u215, u216, u217, u218, u219, u220, u221, u222, u223, u224, u225, u226, u227, u228, u229, u230, u231, u232, u233, u234, u235, u236, u237, u238, u239, u240, u241, u242, u243, u244, u245, u246, u247, u248, u249, u250, u251, u252, u253, u254, u255, u256, u257, u258, u259, u260, u261, u262, u263, u264, u265, u266, u267, u268, u269, u270, u271, u272, u273, u274, u275, u276, u277, u278, u279, u280, u281, u282, u283, u284, u285, u286, u287, u288, u289, u290, u291, u292, u293, u294, u295, u296, u297, u298, u299, u300, u301, u302, u303, u304, u305, u306, u307, u308, u309, u310, u311, u312, u313, u314, u315, u316, u317, u318, u319, u320, u321, u322, u323, u324, u325, u326, u327, u328, u329, u330, u331, u332, u333, u334, u335, u336, u337, u338, u339, u340, u341, u342, u343, u344, u345, u346, u347, u348, u349, u350, t351, t352, t353, t354, t355, t356, t357, t358, t359, t360, u361, u362, u363, u364], []⟩ y5) :
    Code.wp Tryz.prog (peR 62) Q ⟨#[u0, u1, u2, u3, .pointer (some ⟨V4, 0, none⟩), .slice OA ol.length oc, u6, u7, u8, .slice HA hl.length hc, u10, u11, u12, u13, u14, u15, u16, u17, u18, u19, u20, u21, u22, u23, .slice FA F.length fc, u25, u26, u27, u28, u29, u30, u31, u32, u33, u34, u35, u36, u37, u38, u39, u40, u41, u42, u43, u44, u45, u46, u47, u48, u49, u50, u51, u52, u53, u54, u55, u56, u57, u58, u59, u60, u61, u62, u63, u64, u65, u66, u67, u68, u69, u70, u71, u72, u73, u74, u75, u76, u77, u78, u79, u80, u81, u82, u83, u84, u85, u86, u87, u88, u89, u90, u91, u92, u93, u94, u95, u96, u97, u98, u99, u100, u101, u102, u103, u104, u105, u106, u107, u108, u109, u110, u111, u112, u113, u114, u115, u116, u117, u118, u119, u120, u121, u122, u123, u124, u125, u126, u127, u128, u129, u130, u131, u132, u133, u134, u135, u136, u137, u138, u139, u140, u141, u142, u143, u144, u145, u146, u147, u148, u149, u150, u151, u152, u153, u154, u155, u156, u157, u158, u159, u160, u161, u162, u163, u164, u165, u166, u167, u168, u169, u170, u171, u172, u173, u174, u175, u176, u177, u178, u179, u180, u181, u182, u183, u184, u185, u186, u187, u188, u189, u190, u191, u192, u193, u194, u195, u196, u197, u198, u199, u200, u201, u202, u203, u204, u205, u206, u207, u208, u209, u210, u211, u212, u213, u214, u215, u216, u217, u218, u219, u220, u221, u222, u223, u224, u225, u226, u227, u228, u229, u230, u231, u232, u233, u234, u235, u236, u237, u238, u239, u240, u241, u242, u243, u244, u245, u246, u247, u248, u249, u250, u251, u252, u253, u254, u255, u256, u257, u258, u259, u260, u261, u262, u263, u264, u265, u266, u267, u268, u269, u270, u271, u272, u273, u274, u275, u276, u277, u278, u279, u280, u281, u282, u283, u284, u285, u286, u287, u288, u289, u290, u291, u292, u293, u294, u295, u296, u297, u298, u299, u300, u301, u302, u303, u304, u305, u306, u307, u308, u309, u310, u311, u312, u313, u314, u315, u316, u317, u318, u319, u320, u321, u322, u323, u324, u325, u326, u327, u328, u329, u330, u331, u332, u333, u334, u335, u336, u337, u338, u339, u340, u341, u342, u343, u344, u345, u346, u347, u348, u349, u350, u351, u352, u353, u354, u355, u356, u357, u358, u359, u360, u361, u362, u363, u364], []⟩ wc := by
  have hhB : Hid ((rowB [2, 2, 4, 4, 4, 2, 2] ns).length = 20) := Lib.hid (by rw [rowB_len]; decide)
  have c40d : wc.drew.cell? ⟨V4, 0, none⟩ = some (.slice (some ⟨GH, 0, none⟩) 7 7) := (bF.out.drew.cell (p := ⟨V4, 0, none⟩) hV4).trans c40
  conv => arg 2; whnf
  go_region_held3 (fun w' => w'.cell? ⟨V4, 0, none⟩ = some (.slice (some ⟨GH, 0, none⟩) 7 7))
    (first | with_reducible exact c40d | with_reducible exact K1.out | with_reducible exact K2.out | with_reducible exact K3.out | with_reducible exact K4.out | with_reducible exact K5.out | go_keep)
    (first
      | (go_at_call 21; refine (peHeader_any _).mono ?_; rintro e y1 ⟨⟨vw, rfl, RW⟩, b1'⟩; have b1'' : Below wc.heap.size wc y1 := und b1'; have b1 : Hid (Below w6.heap.size w6 y1) := Lib.hid (bF.out.trans (b1''.mono bF.out.size)); have K1 : Hid (y1.cell? ⟨V4, 0, none⟩ = some (.slice (some ⟨GH, 0, none⟩) 7 7)) := Lib.hid ((b1.out.cell (p := ⟨V4, 0, none⟩) hV4).trans c40); have own1 := Lib.hid (owns_later ownF.out b1''); have RH8 := Lib.hid (rc_later RH.out b1.out); replace RW := Lib.hid RW; clear b1' b1'')
      | (go_at_call 12; refine (specRow_any vw (some ⟨GH, 0, none⟩) 7 7 7 7 [2, 2, 4, 4, 4, 2, 2] ns _ widH cntH (by omega) (by omega) (by omega) hbnd RW RH8).mono ?_; rintro e y2 ⟨⟨vn, rfl, own2'⟩, b2'⟩; have b2 : Hid (Below w6.heap.size w6 y2) := Lib.hid (b1.out.trans (b2'.mono b1.out.size)); have K2 : Hid (y2.cell? ⟨V4, 0, none⟩ = some (.slice (some ⟨GH, 0, none⟩) 7 7)) := Lib.hid ((b2.out.cell (p := ⟨V4, 0, none⟩) hV4).trans c40); have own2 := Lib.hid (owns_later own1.out b2'); obtain ⟨-, AN, cN, rfl, RN, -⟩ := RB.of_owns own2'.out; replace RN := Lib.hid RN; clear own2' b2')
      | (refine step_append_bytes Tryz.underlying34 Tryz.infoByte (by rfl) (.tmp 351) (.tmp 355) (by rfl) w6.heap.size _ _ (F) (by rfl) own2.out AN _ cN (rowB [2, 2, 4, 4, 4, 2, 2] ns) (by rfl) rfl RN.out (by have := hhB.out; (try simp only [List.length_append]); omega) b2.out.size ?_; intro v3' y3 own3' g3 at3; have b3 := Lib.hid (b2.out.grown g3 b2.out.size (fun q hq => (own2.out.lt q hq).1)); have K3 : Hid (y3.cell? ⟨V4, 0, none⟩ = some (.slice (some ⟨GH, 0, none⟩) 7 7)) := Lib.hid ((b3.out.cell (p := ⟨V4, 0, none⟩) hV4).trans c40); have own3 : Hid (y3.ownsRow w6.heap.size 5 1 v3' (F ++ (rowB [2, 2, 4, 4, 4, 2, 2] ns)).length ((F ++ (rowB [2, 2, 4, 4, 4, 2, 2] ns)).map bv)) := Lib.hid (by rw [List.length_append]; exact own3'); clear own3' g3 at3)
      | (refine step_append_bytes Tryz.underlying34 Tryz.infoByte (by rfl) (.tmp 356) (.tmp 357) (by rfl) w6.heap.size _ _ (F ++ rowB [2, 2, 4, 4, 4, 2, 2] ns) (by rfl) own3.out OA _ oc ol (by rfl) rfl (hO.out.later b3.out) (by have := hhB.out; (try simp only [List.length_append]); omega) b3.out.size ?_; intro v4' y4 own4' g4 at4; have b4 := Lib.hid (b3.out.grown g4 b3.out.size (fun q hq => (own3.out.lt q hq).1)); have K4 : Hid (y4.cell? ⟨V4, 0, none⟩ = some (.slice (some ⟨GH, 0, none⟩) 7 7)) := Lib.hid ((b4.out.cell (p := ⟨V4, 0, none⟩) hV4).trans c40); have own4 : Hid (y4.ownsRow w6.heap.size 5 1 v4' (F ++ rowB [2, 2, 4, 4, 4, 2, 2] ns ++ ol).length ((F ++ rowB [2, 2, 4, 4, 4, 2, 2] ns ++ ol).map bv)) := Lib.hid (by rw [List.length_append]; exact own4'); clear own4' g4 at4)
      | (refine step_append_bytes Tryz.underlying34 Tryz.infoByte (by rfl) (.tmp 358) (.tmp 359) (by rfl) w6.heap.size _ _ (F ++ rowB [2, 2, 4, 4, 4, 2, 2] ns ++ ol) (by rfl) own4.out HA _ hc hl (by rfl) rfl (hH.out.later b4.out) (by have := hhB.out; (try simp only [List.length_append]); omega) b4.out.size ?_; intro v5' y5 own5' g5 at5; have b5 := Lib.hid (b4.out.grown g5 b4.out.size (fun q hq => (own4.out.lt q hq).1)); have K5 : Hid (y5.cell? ⟨V4, 0, none⟩ = some (.slice (some ⟨GH, 0, none⟩) 7 7)) := Lib.hid ((b5.out.cell (p := ⟨V4, 0, none⟩) hV4).trans c40); have own5 : Hid (y5.ownsRow w6.heap.size 5 1 v5' (F ++ rowB [2, 2, 4, 4, 4, 2, 2] ns ++ ol ++ hl).length ((F ++ rowB [2, 2, 4, 4, 4, 2, 2] ns ++ ol ++ hl).map bv)) := Lib.hid (by rw [List.length_append]; exact own5'); clear own5' g5 at5)
      | fail)
  exact hQ y5 own5.out b5.out

set_option maxRecDepth 1000000 in
set_option maxHeartbeats 4000000 in
/-- The optional header of 32 bits is laid. -/
theorem peOf_r4_32 {u0 u2 u3 u4 u5 u6 u7 u8 u9 u10 u11 u12 u13 u14 u15 u16 u17 u18 u19 u20 u21 u22 u23 u24 u25 u26 u27 u28 u29 u30 u31 u32 u33 u34 u35 u36 u37 u38 u39 u40 u41 u42 u43 u44 u45 u46 u47 u48 u49 u50 u51 u52 u53 u54 u55 u56 u57 u58 u59 u60 u61 u62 u63 u64 u65 u66 u67 u68 u69 u70 u71 u72 u73 u74 u75 u76 u77 u78 u79 u80 u81 u82 u83 u84 u85 u86 u87 u88 u89 u90 u91 u92 u93 u94 u95 u96 u97 u98 u99 u100 u101 u102 u103 u104 u105 u106 u107 u108 u109 u110 u111 u112 u113 u114 u115 u116 u117 u118 u119 u120 u121 u122 u123 u124 u125 u126 u127 u128 u129 u130 u131 u132 u133 u134 u135 u136 u137 u138 u139 u140 u141 u142 u143 u144 u145 u146 u147 u148 u149 u150 u151 u152 u153 u154 u155 u156 u157 u158 u159 u160 u161 u162 u163 u164 u165 u166 u167 u168 u169 u170 u171 u172 u173 u174 u175 u176 u177 u178 u179 u180 u181 u182 u183 u184 u185 u186 u187 u188 u189 u190 u191 u192 u193 u194 u195 u196 u197 u198 u199 u200 u201 u202 u203 u204 u205 u206 u207 u208 u209 u210 u211 u212 u213 u214 u215 u216 u217 u218 u219 u220 u221 u222 u223 u224 u225 u226 u227 u228 u229 u230 u231 u232 u233 u234 u235 u236 u237 u238 u239 u240 u241 u242 u243 u244 u245 u246 u247 u248 u249 u250 u251 u252 u253 u254 u255 u256 u257 u258 u259 u260 u261 u262 u263 u264 u265 u266 u267 u268 u269 u270 u271 u272 u273 u274 u275 u276 u277 u278 u279 u280 u281 u282 u283 u284 u285 u286 u287 u288 u289 u290 u291 u292 u293 u294 u295 u296 u297 u298 u299 u300 u301 u302 u303 u304 u305 u306 u307 u308 u309 u310 u311 u312 u313 u314 u315 u316 u317 u318 u319 u320 u321 u322 u323 u324 u325 u326 u327 u328 u329 u330 u331 u332 u333 u334 u335 u336 u337 u338 u339 u340 u341 u342 u343 u344 u345 u346 u347 u348 u349 u350 u351 u352 u353 u354 u355 u356 u357 u358 u359 u360 u361 u362 u363 u364 : Value} {V1 nc dc : Nat} {N D : Option Addr} {nums dirs : List Nat} {w3 : World} {Q : Exit → Act → World → Prop}
    (c4 : w3.cell? ⟨V1, 4, none⟩ = some (.int .i64 (32 : Int))) (c5 : w3.cell? ⟨V1, 5, none⟩ = some (.slice N 30 nc)) (c6 : w3.cell? ⟨V1, 6, none⟩ = some (.slice D dirs.length dc)) (hV1 : V1 < w3.heap.size)
    (hN3 : Hid (RC w3 N 1 30 (nums.map uv))) (hD3 : Hid (RC w3 D 1 dirs.length (dirs.map uv))) (hlen : Hid (nums.length = 30)) (hnc : 30 ≤ nc) (hdc : dirs.length ≤ dc) (hd32 : dirs.length ≤ 32) (hnb : Hid (∀ v ∈ nums, v ≤ 18446744073709551615)) (hdb : Hid (∀ v ∈ dirs, v ≤ 18446744073709551615))
    (hQ : ∀ {t34 t35 t36 t37 t38 t39 t40 t41 t42 t43 t44 t45 t46 t47 t48 t5 : Value} (w8 : World), w8.ownsRow w3.heap.size 5 1 t5 (rowB optW32 nums ++ rowB (List.replicate dirs.length 4) dirs).length ((rowB optW32 nums ++ rowB (List.replicate dirs.length 4) dirs).map bv) → Below w3.heap.size w3 w8 → Q .normal ⟨#[u0, .pointer (some ⟨V1, 0, none⟩), u2, u3, u4, t5, u6, u7, u8, u9, u10, u11, u12, u13, u14, u15, u16, u17, u18, u19, u20, u21, u22, u23, u24, u25, u26, u27, u28, u29, u30, u31, u32, u33, t34, t35, t36, t37, t38, t39, t40, t41, t42, t43, t44, t45, t46, t47, t48, u49, u50, u51, u52, u53, u54, u55, u56, u57, u58, u59, u60, u61, u62, u63, u64, u65, u66, u67, u68, u69, u70, u71, u72, u73, u74, u75, u76, u77, u78, u79, u80, u81, u82, u83, u84, u85, u86, u87, u88, u89, u90, u91, u92, u93, u94, u95, u96, u97, u98, u99, u100, u101, u102, u103, u104, u105, u106, u107, u108, u109, u110, u111, u112, u113, u114, u115, u116, u117, u118, u119, u120, u121, u122, u123, u124, u125, u126, u127, u128, u129, u130, u131, u132, u133, u134, u135, u136, u137, u138, u139, u140, u141, u142, u143, u144, u145, u146, u147, u148, u149, u150, u151, u152, u153, u154, u155, u156, u157, u158, u159, u160, u161, u162, u163, u164, u165, u166, u167, u168, u169, u170, u171, u172, u173, u174, u175, u176, u177, u178, u179, u180, u181, u182, u183, u184, u185, u186, u187, u188, u189, u190, u191, u192, u193, u194, u195, u196, u197, u198, u199, u200, u201, u202, u203, u204, u205, u206, u207, u208, u209, u210, u211, u212, u213, u214, u215, u216, u217, u218, u219, u220, u221, u222, u223, u224, u225, u226, u227, u228, u229, u230, u231, u232, u233, u234, u235, u236, u237, u238, u239, u240, u241, u242, u243, u244, u245, u246, u247, u248, u249, u250, u251, u252, u253, u254, u255, u256, u257, u258, u259, u260, u261, u262, u263, u264, u265, u266, u267, u268, u269, u270, u271, u272, u273, u274, u275, u276, u277, u278, u279, u280, u281, u282, u283, u284, u285, u286, u287, u288, u289, u290, u291, u292, u293, u294, u295, u296, u297, u298, u299, u300, u301, u302, u303, u304, u305, u306, u307, u308, u309, u310, u311, u312, u313, u314, u315, u316, u317, u318, u319, u320, u321, u322, u323, u324, u325, u326, u327, u328, u329, u330, u331, u332, u333, u334, u335, u336, u337, u338, u339, u340, u341, u342, u343, u344, u345, u346, u347, u348, u349, u350, u351, u352, u353, u354, u355, u356, u357, u358, u359, u360, u361, u362, u363, u364], []⟩ w8) :
    Code.wp Tryz.prog (peR 4) Q ⟨#[u0, .pointer (some ⟨V1, 0, none⟩), u2, u3, u4, u5, u6, u7, u8, u9, u10, u11, u12, u13, u14, u15, u16, u17, u18, u19, u20, u21, u22, u23, u24, u25, u26, u27, u28, u29, u30, u31, u32, u33, u34, u35, u36, u37, u38, u39, u40, u41, u42, u43, u44, u45, u46, u47, u48, u49, u50, u51, u52, u53, u54, u55, u56, u57, u58, u59, u60, u61, u62, u63, u64, u65, u66, u67, u68, u69, u70, u71, u72, u73, u74, u75, u76, u77, u78, u79, u80, u81, u82, u83, u84, u85, u86, u87, u88, u89, u90, u91, u92, u93, u94, u95, u96, u97, u98, u99, u100, u101, u102, u103, u104, u105, u106, u107, u108, u109, u110, u111, u112, u113, u114, u115, u116, u117, u118, u119, u120, u121, u122, u123, u124, u125, u126, u127, u128, u129, u130, u131, u132, u133, u134, u135, u136, u137, u138, u139, u140, u141, u142, u143, u144, u145, u146, u147, u148, u149, u150, u151, u152, u153, u154, u155, u156, u157, u158, u159, u160, u161, u162, u163, u164, u165, u166, u167, u168, u169, u170, u171, u172, u173, u174, u175, u176, u177, u178, u179, u180, u181, u182, u183, u184, u185, u186, u187, u188, u189, u190, u191, u192, u193, u194, u195, u196, u197, u198, u199, u200, u201, u202, u203, u204, u205, u206, u207, u208, u209, u210, u211, u212, u213, u214, u215, u216, u217, u218, u219, u220, u221, u222, u223, u224, u225, u226, u227, u228, u229, u230, u231, u232, u233, u234, u235, u236, u237, u238, u239, u240, u241, u242, u243, u244, u245, u246, u247, u248, u249, u250, u251, u252, u253, u254, u255, u256, u257, u258, u259, u260, u261, u262, u263, u264, u265, u266, u267, u268, u269, u270, u271, u272, u273, u274, u275, u276, u277, u278, u279, u280, u281, u282, u283, u284, u285, u286, u287, u288, u289, u290, u291, u292, u293, u294, u295, u296, u297, u298, u299, u300, u301, u302, u303, u304, u305, u306, u307, u308, u309, u310, u311, u312, u313, u314, u315, u316, u317, u318, u319, u320, u321, u322, u323, u324, u325, u326, u327, u328, u329, u330, u331, u332, u333, u334, u335, u336, u337, u338, u339, u340, u341, u342, u343, u344, u345, u346, u347, u348, u349, u350, u351, u352, u353, u354, u355, u356, u357, u358, u359, u360, u361, u362, u363, u364], []⟩ w3 := by
  have hl1 : Hid ((rowB optW32 nums).length = 96) := Lib.hid (by rw [rowB_len]; decide)
  have hl2 : Hid ((rowB (List.replicate dirs.length 4) dirs).length = 4 * dirs.length) := Lib.hid (by rw [rowB_len, width_four])
  have hfo : Hid (widthsOk (List.replicate dirs.length 4)) := Lib.hid (fun k x h => .inl (by
    have := List.mem_of_getElem? h
    rw [List.mem_replicate] at this
    obtain ⟨-, rfl⟩ := this
    omega))
  have hcf : Hid (cntW (List.replicate dirs.length 4) ≤ dirs.length) := Lib.hid (Nat.le_of_eq (cnt_four _))
  have hcn : Hid (cntW optW32 ≤ 30) := Lib.hid (by rw [cnt32]; exact Nat.le_refl _)
  have S0d : w3.drew.cell? ⟨V1, 4, none⟩ = some (.int .i64 (32 : Int)) ∧ w3.drew.cell? ⟨V1, 5, none⟩ = some (.slice N 30 nc) ∧ w3.drew.cell? ⟨V1, 6, none⟩ = some (.slice D dirs.length dc) := ⟨c4, c5, c6⟩
  conv => arg 2; whnf
  go_region_held3 (fun w' => w'.cell? ⟨V1, 4, none⟩ = some (.int .i64 (32 : Int)) ∧ w'.cell? ⟨V1, 5, none⟩ = some (.slice N 30 nc) ∧ w'.cell? ⟨V1, 6, none⟩ = some (.slice D dirs.length dc))
    (first | with_reducible exact S0d | with_reducible exact K1.out | with_reducible exact K2.out | with_reducible exact K3.out | with_reducible exact K4.out | with_reducible exact K5.out | go_keep)
    (first
      | (go_at_call 11; refine (peOptional_false _).mono ?_; rintro e w4 ⟨⟨vw, cw, rfl, hcw, RW⟩, b4'⟩; have b4 := Lib.hid (und b4'); have K1 := Lib.hid (cells3 ⟨c4, c5, c6⟩ hV1 b4.out); have hN4 := Lib.hid (rc_later hN3.out b4.out); clear b4')
      | (refine step_append_bytes Tryz.underlying34 Tryz.infoByte (by rfl) (.tmp 40) (.tmp 47) (by rfl) w4.heap.size _ _ (rowB optW32 nums) (by rfl) ownN.out AD _ cD (rowB (List.replicate dirs.length 4) dirs) (by rfl) rfl RD.out (by rw [hl1.out, hl2.out]; omega) (Nat.le_trans b5.out.size (Nat.le_trans b6.out.size b7.out.size)) ?_; intro v8 w8 own8 g8 at8; have b38 := Lib.hid (b37.out.grown g8 b37.out.size (fun q hq => Nat.le_trans b4.out.size (ownN.out.lt q hq).1)); have K5 := Lib.hid (cells3 ⟨c4, c5, c6⟩ hV1 b38.out); have own9 : Hid (w8.ownsRow w3.heap.size 5 1 v8 (rowB optW32 nums ++ rowB (List.replicate dirs.length 4) dirs).length ((rowB optW32 nums ++ rowB (List.replicate dirs.length 4) dirs).map bv)) := Lib.hid (by rw [List.length_append]; exact owns_mono own8 b4.out.size); clear own8 g8 at8)
      | (go_at_call 12; refine (specRow_any AF D dirs.length cF dirs.length dc (List.replicate dirs.length 4) dirs _ hfo hcf (by omega) (by omega) hdc hdb RF hD6).mono ?_; rintro e w7 ⟨⟨vd, rfl, own7⟩, b7'⟩; obtain ⟨-, AD, cD, rfl, RD, hcD, -, -, -⟩ := RB.of_owns own7; replace RD := Lib.hid RD; have ownN := Lib.hid (owns_later (owns_later own5 b6.out) b7'); have b37 := Lib.hid (((b4.out.trans (b5.out.mono b4.out.size)).trans (b6.out.mono (Nat.le_trans b4.out.size b5.out.size))).trans (b7'.mono (Nat.le_trans b4.out.size (Nat.le_trans b5.out.size b6.out.size)))); have b7 := Lib.hid b7'; have K4 := Lib.hid (cells3 K3.out (Nat.lt_of_lt_of_le hV1 (Nat.le_trans b4.out.size (Nat.le_trans b5.out.size b6.out.size))) b7.out); clear b7')
      | (go_at_call 12; refine (specRow_any vw N 30 cw 30 nc optW32 nums _ wid32 hcn (by omega) (by omega) hnc hnb RW hN4).mono ?_; rintro e w5 ⟨⟨vn, rfl, own5⟩, b5'⟩; have b5 := Lib.hid b5'; have K2 := Lib.hid (cells3 K1.out (Nat.lt_of_lt_of_le hV1 b4.out.size) b5.out); clear b5')
      | (go_at_call 13; refine (fours_any dirs.length (by omega) _).mono ?_; rintro e w6 ⟨⟨vf, rfl, own6⟩, b6'⟩; have b6 := Lib.hid b6'; obtain ⟨AF, cF, rfl, RF, hcF, -⟩ := RC.of_owns own6; have K3 := Lib.hid (cells3 K2.out (Nat.lt_of_lt_of_le hV1 (Nat.le_trans b4.out.size b5.out.size)) b6.out); have hD6 := Lib.hid (rc_later (rc_later (rc_later hD3.out b4.out) b5.out) b6.out); replace RF := Lib.hid RF; clear own6 b6')
      | fail)
  exact hQ w8 own9.out b38.out

set_option maxRecDepth 1000000 in
set_option maxHeartbeats 4000000 in
/-- The optional header of 64 bits is laid. -/
theorem peOf_r4_64 {u0 u2 u3 u4 u5 u6 u7 u8 u9 u10 u11 u12 u13 u14 u15 u16 u17 u18 u19 u20 u21 u22 u23 u24 u25 u26 u27 u28 u29 u30 u31 u32 u33 u34 u35 u36 u37 u38 u39 u40 u41 u42 u43 u44 u45 u46 u47 u48 u49 u50 u51 u52 u53 u54 u55 u56 u57 u58 u59 u60 u61 u62 u63 u64 u65 u66 u67 u68 u69 u70 u71 u72 u73 u74 u75 u76 u77 u78 u79 u80 u81 u82 u83 u84 u85 u86 u87 u88 u89 u90 u91 u92 u93 u94 u95 u96 u97 u98 u99 u100 u101 u102 u103 u104 u105 u106 u107 u108 u109 u110 u111 u112 u113 u114 u115 u116 u117 u118 u119 u120 u121 u122 u123 u124 u125 u126 u127 u128 u129 u130 u131 u132 u133 u134 u135 u136 u137 u138 u139 u140 u141 u142 u143 u144 u145 u146 u147 u148 u149 u150 u151 u152 u153 u154 u155 u156 u157 u158 u159 u160 u161 u162 u163 u164 u165 u166 u167 u168 u169 u170 u171 u172 u173 u174 u175 u176 u177 u178 u179 u180 u181 u182 u183 u184 u185 u186 u187 u188 u189 u190 u191 u192 u193 u194 u195 u196 u197 u198 u199 u200 u201 u202 u203 u204 u205 u206 u207 u208 u209 u210 u211 u212 u213 u214 u215 u216 u217 u218 u219 u220 u221 u222 u223 u224 u225 u226 u227 u228 u229 u230 u231 u232 u233 u234 u235 u236 u237 u238 u239 u240 u241 u242 u243 u244 u245 u246 u247 u248 u249 u250 u251 u252 u253 u254 u255 u256 u257 u258 u259 u260 u261 u262 u263 u264 u265 u266 u267 u268 u269 u270 u271 u272 u273 u274 u275 u276 u277 u278 u279 u280 u281 u282 u283 u284 u285 u286 u287 u288 u289 u290 u291 u292 u293 u294 u295 u296 u297 u298 u299 u300 u301 u302 u303 u304 u305 u306 u307 u308 u309 u310 u311 u312 u313 u314 u315 u316 u317 u318 u319 u320 u321 u322 u323 u324 u325 u326 u327 u328 u329 u330 u331 u332 u333 u334 u335 u336 u337 u338 u339 u340 u341 u342 u343 u344 u345 u346 u347 u348 u349 u350 u351 u352 u353 u354 u355 u356 u357 u358 u359 u360 u361 u362 u363 u364 : Value} {V1 nc dc : Nat} {N D : Option Addr} {nums dirs : List Nat} {w3 : World} {Q : Exit → Act → World → Prop}
    (c4 : w3.cell? ⟨V1, 4, none⟩ = some (.int .i64 (64 : Int))) (c5 : w3.cell? ⟨V1, 5, none⟩ = some (.slice N 29 nc)) (c6 : w3.cell? ⟨V1, 6, none⟩ = some (.slice D dirs.length dc)) (hV1 : V1 < w3.heap.size)
    (hN3 : Hid (RC w3 N 1 29 (nums.map uv))) (hD3 : Hid (RC w3 D 1 dirs.length (dirs.map uv))) (hlen : Hid (nums.length = 29)) (hnc : 29 ≤ nc) (hdc : dirs.length ≤ dc) (hd32 : dirs.length ≤ 32) (hnb : Hid (∀ v ∈ nums, v ≤ 18446744073709551615)) (hdb : Hid (∀ v ∈ dirs, v ≤ 18446744073709551615))
    (hQ : ∀ {t34 t35 t36 t37 t38 t39 t40 t41 t42 t43 t44 t45 t46 t47 t48 t5 : Value} (w8 : World), w8.ownsRow w3.heap.size 5 1 t5 (rowB optW64 nums ++ rowB (List.replicate dirs.length 4) dirs).length ((rowB optW64 nums ++ rowB (List.replicate dirs.length 4) dirs).map bv) → Below w3.heap.size w3 w8 → Q .normal ⟨#[u0, .pointer (some ⟨V1, 0, none⟩), u2, u3, u4, t5, u6, u7, u8, u9, u10, u11, u12, u13, u14, u15, u16, u17, u18, u19, u20, u21, u22, u23, u24, u25, u26, u27, u28, u29, u30, u31, u32, u33, t34, t35, t36, t37, t38, t39, t40, t41, t42, t43, t44, t45, t46, t47, t48, u49, u50, u51, u52, u53, u54, u55, u56, u57, u58, u59, u60, u61, u62, u63, u64, u65, u66, u67, u68, u69, u70, u71, u72, u73, u74, u75, u76, u77, u78, u79, u80, u81, u82, u83, u84, u85, u86, u87, u88, u89, u90, u91, u92, u93, u94, u95, u96, u97, u98, u99, u100, u101, u102, u103, u104, u105, u106, u107, u108, u109, u110, u111, u112, u113, u114, u115, u116, u117, u118, u119, u120, u121, u122, u123, u124, u125, u126, u127, u128, u129, u130, u131, u132, u133, u134, u135, u136, u137, u138, u139, u140, u141, u142, u143, u144, u145, u146, u147, u148, u149, u150, u151, u152, u153, u154, u155, u156, u157, u158, u159, u160, u161, u162, u163, u164, u165, u166, u167, u168, u169, u170, u171, u172, u173, u174, u175, u176, u177, u178, u179, u180, u181, u182, u183, u184, u185, u186, u187, u188, u189, u190, u191, u192, u193, u194, u195, u196, u197, u198, u199, u200, u201, u202, u203, u204, u205, u206, u207, u208, u209, u210, u211, u212, u213, u214, u215, u216, u217, u218, u219, u220, u221, u222, u223, u224, u225, u226, u227, u228, u229, u230, u231, u232, u233, u234, u235, u236, u237, u238, u239, u240, u241, u242, u243, u244, u245, u246, u247, u248, u249, u250, u251, u252, u253, u254, u255, u256, u257, u258, u259, u260, u261, u262, u263, u264, u265, u266, u267, u268, u269, u270, u271, u272, u273, u274, u275, u276, u277, u278, u279, u280, u281, u282, u283, u284, u285, u286, u287, u288, u289, u290, u291, u292, u293, u294, u295, u296, u297, u298, u299, u300, u301, u302, u303, u304, u305, u306, u307, u308, u309, u310, u311, u312, u313, u314, u315, u316, u317, u318, u319, u320, u321, u322, u323, u324, u325, u326, u327, u328, u329, u330, u331, u332, u333, u334, u335, u336, u337, u338, u339, u340, u341, u342, u343, u344, u345, u346, u347, u348, u349, u350, u351, u352, u353, u354, u355, u356, u357, u358, u359, u360, u361, u362, u363, u364], []⟩ w8) :
    Code.wp Tryz.prog (peR 4) Q ⟨#[u0, .pointer (some ⟨V1, 0, none⟩), u2, u3, u4, u5, u6, u7, u8, u9, u10, u11, u12, u13, u14, u15, u16, u17, u18, u19, u20, u21, u22, u23, u24, u25, u26, u27, u28, u29, u30, u31, u32, u33, u34, u35, u36, u37, u38, u39, u40, u41, u42, u43, u44, u45, u46, u47, u48, u49, u50, u51, u52, u53, u54, u55, u56, u57, u58, u59, u60, u61, u62, u63, u64, u65, u66, u67, u68, u69, u70, u71, u72, u73, u74, u75, u76, u77, u78, u79, u80, u81, u82, u83, u84, u85, u86, u87, u88, u89, u90, u91, u92, u93, u94, u95, u96, u97, u98, u99, u100, u101, u102, u103, u104, u105, u106, u107, u108, u109, u110, u111, u112, u113, u114, u115, u116, u117, u118, u119, u120, u121, u122, u123, u124, u125, u126, u127, u128, u129, u130, u131, u132, u133, u134, u135, u136, u137, u138, u139, u140, u141, u142, u143, u144, u145, u146, u147, u148, u149, u150, u151, u152, u153, u154, u155, u156, u157, u158, u159, u160, u161, u162, u163, u164, u165, u166, u167, u168, u169, u170, u171, u172, u173, u174, u175, u176, u177, u178, u179, u180, u181, u182, u183, u184, u185, u186, u187, u188, u189, u190, u191, u192, u193, u194, u195, u196, u197, u198, u199, u200, u201, u202, u203, u204, u205, u206, u207, u208, u209, u210, u211, u212, u213, u214, u215, u216, u217, u218, u219, u220, u221, u222, u223, u224, u225, u226, u227, u228, u229, u230, u231, u232, u233, u234, u235, u236, u237, u238, u239, u240, u241, u242, u243, u244, u245, u246, u247, u248, u249, u250, u251, u252, u253, u254, u255, u256, u257, u258, u259, u260, u261, u262, u263, u264, u265, u266, u267, u268, u269, u270, u271, u272, u273, u274, u275, u276, u277, u278, u279, u280, u281, u282, u283, u284, u285, u286, u287, u288, u289, u290, u291, u292, u293, u294, u295, u296, u297, u298, u299, u300, u301, u302, u303, u304, u305, u306, u307, u308, u309, u310, u311, u312, u313, u314, u315, u316, u317, u318, u319, u320, u321, u322, u323, u324, u325, u326, u327, u328, u329, u330, u331, u332, u333, u334, u335, u336, u337, u338, u339, u340, u341, u342, u343, u344, u345, u346, u347, u348, u349, u350, u351, u352, u353, u354, u355, u356, u357, u358, u359, u360, u361, u362, u363, u364], []⟩ w3 := by
  have hl1 : Hid ((rowB optW64 nums).length = 112) := Lib.hid (by rw [rowB_len]; decide)
  have hl2 : Hid ((rowB (List.replicate dirs.length 4) dirs).length = 4 * dirs.length) := Lib.hid (by rw [rowB_len, width_four])
  have hfo : Hid (widthsOk (List.replicate dirs.length 4)) := Lib.hid (fun k x h => .inl (by
    have := List.mem_of_getElem? h
    rw [List.mem_replicate] at this
    obtain ⟨-, rfl⟩ := this
    omega))
  have hcf : Hid (cntW (List.replicate dirs.length 4) ≤ dirs.length) := Lib.hid (Nat.le_of_eq (cnt_four _))
  have hcn : Hid (cntW optW64 ≤ 29) := Lib.hid (by rw [cnt64]; exact Nat.le_refl _)
  have S0d : w3.drew.cell? ⟨V1, 4, none⟩ = some (.int .i64 (64 : Int)) ∧ w3.drew.cell? ⟨V1, 5, none⟩ = some (.slice N 29 nc) ∧ w3.drew.cell? ⟨V1, 6, none⟩ = some (.slice D dirs.length dc) := ⟨c4, c5, c6⟩
  conv => arg 2; whnf
  go_region_held3 (fun w' => w'.cell? ⟨V1, 4, none⟩ = some (.int .i64 (64 : Int)) ∧ w'.cell? ⟨V1, 5, none⟩ = some (.slice N 29 nc) ∧ w'.cell? ⟨V1, 6, none⟩ = some (.slice D dirs.length dc))
    (first | with_reducible exact S0d | with_reducible exact K1.out | with_reducible exact K2.out | with_reducible exact K3.out | with_reducible exact K4.out | with_reducible exact K5.out | go_keep)
    (first
      | (go_at_call 11; refine (peOptional_true _).mono ?_; rintro e w4 ⟨⟨vw, cw, rfl, hcw, RW⟩, b4'⟩; have b4 := Lib.hid (und b4'); have K1 := Lib.hid (cells3 ⟨c4, c5, c6⟩ hV1 b4.out); have hN4 := Lib.hid (rc_later hN3.out b4.out); clear b4')
      | (refine step_append_bytes Tryz.underlying34 Tryz.infoByte (by rfl) (.tmp 40) (.tmp 47) (by rfl) w4.heap.size _ _ (rowB optW64 nums) (by rfl) ownN.out AD _ cD (rowB (List.replicate dirs.length 4) dirs) (by rfl) rfl RD.out (by rw [hl1.out, hl2.out]; omega) (Nat.le_trans b5.out.size (Nat.le_trans b6.out.size b7.out.size)) ?_; intro v8 w8 own8 g8 at8; have b38 := Lib.hid (b37.out.grown g8 b37.out.size (fun q hq => Nat.le_trans b4.out.size (ownN.out.lt q hq).1)); have K5 := Lib.hid (cells3 ⟨c4, c5, c6⟩ hV1 b38.out); have own9 : Hid (w8.ownsRow w3.heap.size 5 1 v8 (rowB optW64 nums ++ rowB (List.replicate dirs.length 4) dirs).length ((rowB optW64 nums ++ rowB (List.replicate dirs.length 4) dirs).map bv)) := Lib.hid (by rw [List.length_append]; exact owns_mono own8 b4.out.size); clear own8 g8 at8)
      | (go_at_call 12; refine (specRow_any AF D dirs.length cF dirs.length dc (List.replicate dirs.length 4) dirs _ hfo hcf (by omega) (by omega) hdc hdb RF hD6).mono ?_; rintro e w7 ⟨⟨vd, rfl, own7⟩, b7'⟩; obtain ⟨-, AD, cD, rfl, RD, hcD, -, -, -⟩ := RB.of_owns own7; replace RD := Lib.hid RD; have ownN := Lib.hid (owns_later (owns_later own5 b6.out) b7'); have b37 := Lib.hid (((b4.out.trans (b5.out.mono b4.out.size)).trans (b6.out.mono (Nat.le_trans b4.out.size b5.out.size))).trans (b7'.mono (Nat.le_trans b4.out.size (Nat.le_trans b5.out.size b6.out.size)))); have b7 := Lib.hid b7'; have K4 := Lib.hid (cells3 K3.out (Nat.lt_of_lt_of_le hV1 (Nat.le_trans b4.out.size (Nat.le_trans b5.out.size b6.out.size))) b7.out); clear b7')
      | (go_at_call 12; refine (specRow_any vw N 29 cw 29 nc optW64 nums _ wid64 hcn (by omega) (by omega) hnc hnb RW hN4).mono ?_; rintro e w5 ⟨⟨vn, rfl, own5⟩, b5'⟩; have b5 := Lib.hid b5'; have K2 := Lib.hid (cells3 K1.out (Nat.lt_of_lt_of_le hV1 b4.out.size) b5.out); clear b5')
      | (go_at_call 13; refine (fours_any dirs.length (by omega) _).mono ?_; rintro e w6 ⟨⟨vf, rfl, own6⟩, b6'⟩; have b6 := Lib.hid b6'; obtain ⟨AF, cF, rfl, RF, hcF, -⟩ := RC.of_owns own6; have K3 := Lib.hid (cells3 K2.out (Nat.lt_of_lt_of_le hV1 (Nat.le_trans b4.out.size b5.out.size)) b6.out); have hD6 := Lib.hid (rc_later (rc_later (rc_later hD3.out b4.out) b5.out) b6.out); replace RF := Lib.hid RF; clear own6 b6')
      | fail)
  exact hQ w8 own9.out b38.out

set_option maxRecDepth 1000000 in
set_option maxHeartbeats 4000000 in
/-- The directories are copied. -/
theorem peOf_r5 {u0 u2 u3 u5 u6 u7 u8 u9 u10 u11 u12 u13 u14 u15 u16 u17 u18 u19 u20 u21 u22 u23 u24 u25 u26 u27 u28 u29 u30 u31 u32 u33 u34 u35 u36 u37 u38 u39 u40 u41 u42 u43 u44 u45 u46 u47 u48 u49 u50 u51 u52 u53 u54 u55 u56 u57 u58 u59 u60 u61 u62 u63 u64 u65 u66 u67 u68 u69 u70 u71 u72 u73 u74 u75 u76 u77 u78 u79 u80 u81 u82 u83 u84 u85 u86 u87 u88 u89 u90 u91 u92 u93 u94 u95 u96 u97 u98 u99 u100 u101 u102 u103 u104 u105 u106 u107 u108 u109 u110 u111 u112 u113 u114 u115 u116 u117 u118 u119 u120 u121 u122 u123 u124 u125 u126 u127 u128 u129 u130 u131 u132 u133 u134 u135 u136 u137 u138 u139 u140 u141 u142 u143 u144 u145 u146 u147 u148 u149 u150 u151 u152 u153 u154 u155 u156 u157 u158 u159 u160 u161 u162 u163 u164 u165 u166 u167 u168 u169 u170 u171 u172 u173 u174 u175 u176 u177 u178 u179 u180 u181 u182 u183 u184 u185 u186 u187 u188 u189 u190 u191 u192 u193 u194 u195 u196 u197 u198 u199 u200 u201 u202 u203 u204 u205 u206 u207 u208 u209 u210 u211 u212 u213 u214 u215 u216 u217 u218 u219 u220 u221 u222 u223 u224 u225 u226 u227 u228 u229 u230 u231 u232 u233 u234 u235 u236 u237 u238 u239 u240 u241 u242 u243 u244 u245 u246 u247 u248 u249 u250 u251 u252 u253 u254 u255 u256 u257 u258 u259 u260 u261 u262 u263 u264 u265 u266 u267 u268 u269 u270 u271 u272 u273 u274 u275 u276 u277 u278 u279 u280 u281 u282 u283 u284 u285 u286 u287 u288 u289 u290 u291 u292 u293 u294 u295 u296 u297 u298 u299 u300 u301 u302 u303 u304 u305 u306 u307 u308 u309 u310 u311 u312 u313 u314 u315 u316 u317 u318 u319 u320 u321 u322 u323 u324 u325 u326 u327 u328 u329 u330 u331 u332 u333 u334 u335 u336 u337 u338 u339 u340 u341 u342 u343 u344 u345 u346 u347 u348 u349 u350 u351 u352 u353 u354 u355 u356 u357 u358 u359 u360 u361 u362 u363 u364 : Value} {V1 V4 dc : Nat} {D : Option Addr} {dirs : List Nat} {row4 : List Value} {w8 : World} {Q : Exit → Act → World → Prop}
    (c6' : w8.cell? ⟨V1, 6, none⟩ = some (.slice D dirs.length dc)) (hD8 : Hid (RC w8 D 1 dirs.length (dirs.map uv))) (g48 : Hid (w8.heap[V4]? = some (.cells row4.toArray 36 (0, 0)))) (h3 : ∃ x, row4[3]? = some x) (hne : V1 ≠ V4) (hV8 : V1 < w8.heap.size) (hd32 : dirs.length ≤ 32)
    (hQ : ∀ {t49 t50 t51 t52 t53 t54 t55 t56 t57 t58 : Value} (w10 : World) (A10 : Option Addr) (n10 c10 : Nat), Below w8.heap.size w8 w10 → Q .normal ⟨#[u0, .pointer (some ⟨V1, 0, none⟩), u2, u3, .pointer (some ⟨V4, 0, none⟩), u5, u6, u7, u8, u9, u10, u11, u12, u13, u14, u15, u16, u17, u18, u19, u20, u21, u22, u23, u24, u25, u26, u27, u28, u29, u30, u31, u32, u33, u34, u35, u36, u37, u38, u39, u40, u41, u42, u43, u44, u45, u46, u47, u48, t49, t50, t51, t52, t53, t54, t55, t56, t57, t58, u59, u60, u61, u62, u63, u64, u65, u66, u67, u68, u69, u70, u71, u72, u73, u74, u75, u76, u77, u78, u79, u80, u81, u82, u83, u84, u85, u86, u87, u88, u89, u90, u91, u92, u93, u94, u95, u96, u97, u98, u99, u100, u101, u102, u103, u104, u105, u106, u107, u108, u109, u110, u111, u112, u113, u114, u115, u116, u117, u118, u119, u120, u121, u122, u123, u124, u125, u126, u127, u128, u129, u130, u131, u132, u133, u134, u135, u136, u137, u138, u139, u140, u141, u142, u143, u144, u145, u146, u147, u148, u149, u150, u151, u152, u153, u154, u155, u156, u157, u158, u159, u160, u161, u162, u163, u164, u165, u166, u167, u168, u169, u170, u171, u172, u173, u174, u175, u176, u177, u178, u179, u180, u181, u182, u183, u184, u185, u186, u187, u188, u189, u190, u191, u192, u193, u194, u195, u196, u197, u198, u199, u200, u201, u202, u203, u204, u205, u206, u207, u208, u209, u210, u211, u212, u213, u214, u215, u216, u217, u218, u219, u220, u221, u222, u223, u224, u225, u226, u227, u228, u229, u230, u231, u232, u233, u234, u235, u236, u237, u238, u239, u240, u241, u242, u243, u244, u245, u246, u247, u248, u249, u250, u251, u252, u253, u254, u255, u256, u257, u258, u259, u260, u261, u262, u263, u264, u265, u266, u267, u268, u269, u270, u271, u272, u273, u274, u275, u276, u277, u278, u279, u280, u281, u282, u283, u284, u285, u286, u287, u288, u289, u290, u291, u292, u293, u294, u295, u296, u297, u298, u299, u300, u301, u302, u303, u304, u305, u306, u307, u308, u309, u310, u311, u312, u313, u314, u315, u316, u317, u318, u319, u320, u321, u322, u323, u324, u325, u326, u327, u328, u329, u330, u331, u332, u333, u334, u335, u336, u337, u338, u339, u340, u341, u342, u343, u344, u345, u346, u347, u348, u349, u350, u351, u352, u353, u354, u355, u356, u357, u358, u359, u360, u361, u362, u363, u364], []⟩ (w10.setCell ⟨V4, 3, none⟩ (.slice A10 n10 c10))) :
    Code.wp Tryz.prog (peR 5) Q ⟨#[u0, .pointer (some ⟨V1, 0, none⟩), u2, u3, .pointer (some ⟨V4, 0, none⟩), u5, u6, u7, u8, u9, u10, u11, u12, u13, u14, u15, u16, u17, u18, u19, u20, u21, u22, u23, u24, u25, u26, u27, u28, u29, u30, u31, u32, u33, u34, u35, u36, u37, u38, u39, u40, u41, u42, u43, u44, u45, u46, u47, u48, u49, u50, u51, u52, u53, u54, u55, u56, u57, u58, u59, u60, u61, u62, u63, u64, u65, u66, u67, u68, u69, u70, u71, u72, u73, u74, u75, u76, u77, u78, u79, u80, u81, u82, u83, u84, u85, u86, u87, u88, u89, u90, u91, u92, u93, u94, u95, u96, u97, u98, u99, u100, u101, u102, u103, u104, u105, u106, u107, u108, u109, u110, u111, u112, u113, u114, u115, u116, u117, u118, u119, u120, u121, u122, u123, u124, u125, u126, u127, u128, u129, u130, u131, u132, u133, u134, u135, u136, u137, u138, u139, u140, u141, u142, u143, u144, u145, u146, u147, u148, u149, u150, u151, u152, u153, u154, u155, u156, u157, u158, u159, u160, u161, u162, u163, u164, u165, u166, u167, u168, u169, u170, u171, u172, u173, u174, u175, u176, u177, u178, u179, u180, u181, u182, u183, u184, u185, u186, u187, u188, u189, u190, u191, u192, u193, u194, u195, u196, u197, u198, u199, u200, u201, u202, u203, u204, u205, u206, u207, u208, u209, u210, u211, u212, u213, u214, u215, u216, u217, u218, u219, u220, u221, u222, u223, u224, u225, u226, u227, u228, u229, u230, u231, u232, u233, u234, u235, u236, u237, u238, u239, u240, u241, u242, u243, u244, u245, u246, u247, u248, u249, u250, u251, u252, u253, u254, u255, u256, u257, u258, u259, u260, u261, u262, u263, u264, u265, u266, u267, u268, u269, u270, u271, u272, u273, u274, u275, u276, u277, u278, u279, u280, u281, u282, u283, u284, u285, u286, u287, u288, u289, u290, u291, u292, u293, u294, u295, u296, u297, u298, u299, u300, u301, u302, u303, u304, u305, u306, u307, u308, u309, u310, u311, u312, u313, u314, u315, u316, u317, u318, u319, u320, u321, u322, u323, u324, u325, u326, u327, u328, u329, u330, u331, u332, u333, u334, u335, u336, u337, u338, u339, u340, u341, u342, u343, u344, u345, u346, u347, u348, u349, u350, u351, u352, u353, u354, u355, u356, u357, u358, u359, u360, u361, u362, u363, u364], []⟩ w8 := by
  have hq : IntKind.i64.wrap (32 - (dirs.length : Int)) = ((32 - dirs.length : Nat) : Int) := by
    rw [IntWalk.i64_in _ (by omega)]
    omega
  obtain ⟨i0, hi, hz0, hz1, hz2⟩ := info_parts Tryz.info64
  obtain ⟨x3, h3⟩ := h3
  conv => arg 2; whnf
  go_region_held3 (fun w' => w'.cell? ⟨V1, 6, none⟩ = some (.slice D dirs.length dc))
    (first | exact c6' | exact K6.out | exact K7.out | exact K8.out | go_keep)
    (first
      | (refine step_append_any (by rfl) (.tmp 49) (.tmp 51) 25 (by rfl) w8.heap.size 54 i0 (.int .u64 0) 1 8 Tryz.underlying25 hi hz0 hz1 hz2 rfl (by omega) _ 0 [] (by rfl) (owns_new 54 (Nat.le_refl _)).drew D dirs.length dc (dirs.map uv) (by rfl) (rc_later hD8.out ((Below.refl _ _).alloc (Nat.le_refl _) _).drew) (uv_one _) (by simp only [maxLen]; omega) (by omega) (by simp) ?_; intro v9 w9 own9' g9 at9; have b89 := (((Below.refl w8.heap.size w8).alloc (Nat.le_refl _) (.cells #[] 54)).drew).grown g9 (by simp) (fun q hq => Nat.le_of_eq (Option.some.inj hq)); have K6 : Hid (w9.cell? ⟨V1, 6, none⟩ = some (.slice D dirs.length dc)) := Lib.hid ((b89.cell (p := ⟨V1, 6, none⟩) hV8).trans c6'); replace b89 := Lib.hid b89; replace own9' := Lib.hid own9'; clear g9 at9)
      | (obtain ⟨A10, n10, c10, w10, hr10, g10⟩ := run_append_noughts (P := Tryz.prog) w8.heap.size 25 3 25 54 Tryz.underlying25 Tryz.underlying3 Tryz.info64 v9 _ _ own9'.out (32 - dirs.length) (by omega) (by omega); refine step_append_run (by rfl) (.tmp 52) (.tmp 56) 25 3 (by rfl) v9 (.int .i64 ((32 - dirs.length : Nat) : Int)) (by rfl) (by rfl) (.slice A10 n10 c10) w10 hr10 ?_; have b810 := b89.out.grown g10 b89.out.size (fun q hq => (own9'.out.lt q hq).1); have K7 : Hid (w10.cell? ⟨V1, 6, none⟩ = some (.slice D dirs.length dc)) := Lib.hid ((b810.cell (p := ⟨V1, 6, none⟩) hV8).trans c6'); replace b810 := Lib.hid b810; have g410 := row_later b810.out g48; have c43 := World.cell?_of_row g410.out 3 _ h3; have f43 := frozen_of_row _ V4 3 _ _ g410.out; have K8 : Hid ((w10.setCell ⟨V4, 3, none⟩ (.slice A10 n10 c10)).cell? ⟨V1, 6, none⟩ = some (.slice D dirs.length dc)) := Lib.hid ((((Chg.refl (· = V4) w10).setCell ⟨V4, 3, none⟩ (.slice A10 n10 c10) (.inl rfl)).cell (p := ⟨V1, 6, none⟩) (Nat.lt_of_lt_of_le hV8 b810.out.size) hne).trans K7.out); clear g10 hr10)
      | fail)
  exact hQ w10 A10 n10 c10 b810.out

set_option maxRecDepth 1000000 in
set_option maxHeartbeats 4000000 in
/-- The number in the stub. -/
theorem peOf_r60 {u0 u2 u3 u4 u5 u6 u7 u8 u9 u10 u11 u12 u13 u14 u15 u16 u17 u18 u19 u20 u21 u22 u23 u25 u26 u27 u28 u29 u30 u31 u32 u33 u34 u35 u36 u37 u38 u39 u40 u41 u42 u43 u44 u45 u46 u47 u48 u49 u50 u51 u52 u53 u54 u55 u56 u57 u58 u59 u60 u61 u62 u63 u64 u65 u66 u67 u68 u69 u70 u71 u72 u73 u74 u75 u76 u77 u78 u79 u80 u81 u82 u83 u84 u85 u86 u87 u88 u89 u90 u91 u92 u93 u94 u95 u96 u97 u98 u99 u100 u101 u102 u103 u104 u105 u106 u107 u108 u109 u110 u111 u112 u113 u114 u115 u116 u117 u118 u119 u120 u121 u122 u123 u124 u125 u126 u127 u128 u129 u130 u131 u132 u133 u134 u135 u136 u137 u138 u139 u140 u141 u142 u143 u144 u145 u146 u147 u148 u149 u150 u151 u152 u153 u154 u155 u156 u157 u158 u159 u160 u161 u162 u163 u164 u165 u166 u167 u168 u169 u170 u171 u172 u173 u174 u175 u176 u177 u178 u179 u180 u181 u182 u183 u184 u185 u186 u187 u188 u189 u190 u191 u192 u193 u194 u195 u196 u197 u198 u199 u200 u201 u202 u203 u204 u205 u206 u207 u208 u209 u210 u211 u212 u213 u214 u215 u216 u217 u218 u219 u220 u221 u222 u223 u224 u225 u226 u227 u228 u229 u230 u231 u232 u233 u234 u235 u236 u237 u238 u239 u240 u241 u242 u243 u244 u245 u246 u247 u248 u249 u250 u251 u252 u253 u254 u255 u256 u257 u258 u259 u260 u261 u262 u263 u264 u265 u266 u267 u268 u269 u270 u271 u272 u273 u274 u275 u276 u277 u278 u279 u280 u281 u282 u283 u284 u285 u286 u287 u288 u289 u290 u291 u292 u293 u294 u295 u296 u297 u298 u299 u300 u301 u302 u303 u304 u305 u306 u307 u308 u309 u310 u311 u312 u313 u314 u315 u316 u317 u318 u319 u320 u321 u322 u323 u324 u325 u326 u327 u328 u329 u330 u331 u332 u333 u334 u335 u336 u337 u338 u339 u340 u341 u342 u343 u344 u345 u346 u347 u348 u349 u350 u351 u352 u353 u354 u355 u356 u357 u358 u359 u360 u361 u362 u363 u364 : Value} {V1 g Z : Nat} {L1 : List Value} {w10 : World} {Q : Exit → Act → World → Prop}
    (d0 : w10.cell? ⟨V1, 0, none⟩ = some (.int .i64 (Z : Int))) (h10 : Hid (w10.heap[g]? = some (.cells L1.toArray 5 (0, 0)))) (hL1 : Hid (L1.length = Z)) (h64 : 64 ≤ Z) (hZ127 : Z ≤ 127) (hlt : V1 < w10.heap.size) (hne : V1 ≠ g)
    (hQ : ∀ {t341 t342 t343 t344 t345 t346 t347 : Value} (w11 w12 : World), Below w10.heap.size w10 w11 → w12.heap[g]? = some (.cells (splice L1 60 (((le 4 Z).take (Z - 60)).map bv)).toArray 5 (0, 0)) → Chg (· = g) w11 w12 → Q .normal ⟨#[u0, .pointer (some ⟨V1, 0, none⟩), u2, u3, u4, u5, u6, u7, u8, u9, u10, u11, u12, u13, u14, u15, u16, u17, u18, u19, u20, u21, u22, u23, .slice (some ⟨g, 0, none⟩) Z Z, u25, u26, u27, u28, u29, u30, u31, u32, u33, u34, u35, u36, u37, u38, u39, u40, u41, u42, u43, u44, u45, u46, u47, u48, u49, u50, u51, u52, u53, u54, u55, u56, u57, u58, u59, u60, u61, u62, u63, u64, u65, u66, u67, u68, u69, u70, u71, u72, u73, u74, u75, u76, u77, u78, u79, u80, u81, u82, u83, u84, u85, u86, u87, u88, u89, u90, u91, u92, u93, u94, u95, u96, u97, u98, u99, u100, u101, u102, u103, u104, u105, u106, u107, u108, u109, u110, u111, u112, u113, u114, u115, u116, u117, u118, u119, u120, u121, u122, u123, u124, u125, u126, u127, u128, u129, u130, u131, u132, u133, u134, u135, u136, u137, u138, u139, u140, u141, u142, u143, u144, u145, u146, u147, u148, u149, u150, u151, u152, u153, u154, u155, u156, u157, u158, u159, u160, u161, u162, u163, u164, u165, u166, u167, u168, u169, u170, u171, u172, u173, u174, u175, u176, u177, u178, u179, u180, u181, u182, u183, u184, u185, u186, u187, u188, u189, u190, u191, u192, u193, u194, u195, u196, u197, u198, u199, u200, u201, u202, u203, u204, u205, u206, u207, u208, u209, u210, u211, u212, u213, u214, u215, u216, u217, u218, u219, u220, u221, u222, u223, u224, u225, u226, u227, u228, u229, u230, u231, u232, u233, u234, u235, u236, u237, u238, u239, u240, u241, u242, u243, u244, u245, u246, u247, u248, u249, u250, u251, u252, u253, u254, u255, u256, u257, u258, u259, u260, u261, u262, u263, u264, u265, u266, u267, u268, u269, u270, u271, u272, u273, u274, u275, u276, u277, u278, u279, u280, u281, u282, u283, u284, u285, u286, u287, u288, u289, u290, u291, u292, u293, u294, u295, u296, u297, u298, u299, u300, u301, u302, u303, u304, u305, u306, u307, u308, u309, u310, u311, u312, u313, u314, u315, u316, u317, u318, u319, u320, u321, u322, u323, u324, u325, u326, u327, u328, u329, u330, u331, u332, u333, u334, u335, u336, u337, u338, u339, u340, t341, t342, t343, t344, t345, t346, t347, u348, u349, u350, u351, u352, u353, u354, u355, u356, u357, u358, u359, u360, u361, u362, u363, u364], []⟩ w12) :
    Code.wp Tryz.prog (peR 60) Q ⟨#[u0, .pointer (some ⟨V1, 0, none⟩), u2, u3, u4, u5, u6, u7, u8, u9, u10, u11, u12, u13, u14, u15, u16, u17, u18, u19, u20, u21, u22, u23, .slice (some ⟨g, 0, none⟩) Z Z, u25, u26, u27, u28, u29, u30, u31, u32, u33, u34, u35, u36, u37, u38, u39, u40, u41, u42, u43, u44, u45, u46, u47, u48, u49, u50, u51, u52, u53, u54, u55, u56, u57, u58, u59, u60, u61, u62, u63, u64, u65, u66, u67, u68, u69, u70, u71, u72, u73, u74, u75, u76, u77, u78, u79, u80, u81, u82, u83, u84, u85, u86, u87, u88, u89, u90, u91, u92, u93, u94, u95, u96, u97, u98, u99, u100, u101, u102, u103, u104, u105, u106, u107, u108, u109, u110, u111, u112, u113, u114, u115, u116, u117, u118, u119, u120, u121, u122, u123, u124, u125, u126, u127, u128, u129, u130, u131, u132, u133, u134, u135, u136, u137, u138, u139, u140, u141, u142, u143, u144, u145, u146, u147, u148, u149, u150, u151, u152, u153, u154, u155, u156, u157, u158, u159, u160, u161, u162, u163, u164, u165, u166, u167, u168, u169, u170, u171, u172, u173, u174, u175, u176, u177, u178, u179, u180, u181, u182, u183, u184, u185, u186, u187, u188, u189, u190, u191, u192, u193, u194, u195, u196, u197, u198, u199, u200, u201, u202, u203, u204, u205, u206, u207, u208, u209, u210, u211, u212, u213, u214, u215, u216, u217, u218, u219, u220, u221, u222, u223, u224, u225, u226, u227, u228, u229, u230, u231, u232, u233, u234, u235, u236, u237, u238, u239, u240, u241, u242, u243, u244, u245, u246, u247, u248, u249, u250, u251, u252, u253, u254, u255, u256, u257, u258, u259, u260, u261, u262, u263, u264, u265, u266, u267, u268, u269, u270, u271, u272, u273, u274, u275, u276, u277, u278, u279, u280, u281, u282, u283, u284, u285, u286, u287, u288, u289, u290, u291, u292, u293, u294, u295, u296, u297, u298, u299, u300, u301, u302, u303, u304, u305, u306, u307, u308, u309, u310, u311, u312, u313, u314, u315, u316, u317, u318, u319, u320, u321, u322, u323, u324, u325, u326, u327, u328, u329, u330, u331, u332, u333, u334, u335, u336, u337, u338, u339, u340, u341, u342, u343, u344, u345, u346, u347, u348, u349, u350, u351, u352, u353, u354, u355, u356, u357, u358, u359, u360, u361, u362, u363, u364], []⟩ w10 := by
  have hsl : ∀ W, (Instr.slice 34 (.slice (some ⟨g, 0, none⟩) Z Z) (some (.int .i64 60)) none none).run Tryz.prog W = .ok (.slice (some ⟨g, 60, none⟩) (Z - 60) (Z - 60)) W := fun W => by
    have h := run_slice_from (P := Tryz.prog) Tryz.underlying34 (info_parts Tryz.infoByte).choose_spec.1 (info_parts Tryz.infoByte).choose_spec.2.2.1 (some ⟨g, 0, none⟩) Z Z 60 .i64 (by omega) W
    rw [slA_some _ _ _ _ (by omega)] at h
    simpa using h
  have hmin : Hid (0 < Nat.min 4 (Z - 60)) := Lib.hid (Nat.lt_min.2 ⟨by omega, by omega⟩)
  have hfit : Hid (60 + Nat.min 4 (Z - 60) ≤ L1.length) := Lib.hid (by
    rw [hL1.out]
    exact Nat.le_trans (Nat.add_le_add_left (Nat.min_le_right 4 (Z - 60)) 60) (by omega))
  have hwz : IntKind.u64.wrap (Z : Int) = (Z : Int) := by rw [IntKind.wrap_u64]; omega
  have hBy : Hid (∀ W, Calls Tryz.prog 18 #[.bool false, .int .i64 4, .int .u64 Z] W fun e w' => (∃ u, e = .returned u ∧ w'.ownsRow W.heap.size 5 1 u 4 ((le 4 Z).map bv)) ∧ Below W.heap.size W w') := Lib.hid (fun W => specBytes_any false 4 Z (by omega) (by omega) W)
  conv => arg 2; whnf
  go_region_held3 (fun w' => w'.cell? ⟨V1, 0, none⟩ = some (.int .i64 (Z : Int)))
    (first | exact d0 | exact K1.out | exact K2.out | go_keep)
    (first
      | (go_at_call 18; refine (hBy.out _).mono ?_; rintro e w11 ⟨⟨u, rfl, own11⟩, b11'⟩; have b11 : Hid (Below w10.heap.size w10 w11) := Lib.hid (und b11'); obtain ⟨-, AL, cL, rfl, RL, hcL, -⟩ := RB.of_owns own11; replace RL := Lib.hid RL; have K1 : Hid (w11.cell? ⟨V1, 0, none⟩ = some (.int .i64 (Z : Int))) := Lib.hid ((b11.out.cell (p := ⟨V1, 0, none⟩) hlt).trans d0); have h11 := row_later b11.out h10; clear own11 b11')
      | (refine step_copy_bytes (by rfl) (.tmp 342) (.tmp 346) 34 34 (by rfl) 5 Tryz.underlying34 Tryz.sizeByte g 60 (Z - 60) (Z - 60) AL 4 cL (by rfl) (by rfl) L1 5 h11 (le 4 Z) (le_len 4 Z) RL.out hmin.out hfit.out ?_; intro w12 h12 C12 z12; clear z12; have K2 : Hid (w12.cell? ⟨V1, 0, none⟩ = some (.int .i64 (Z : Int))) := Lib.hid ((C12.cell (p := ⟨V1, 0, none⟩) (Nat.lt_of_lt_of_le hlt b11.out.size) hne).trans K1.out))
      | fail)
  exact hQ w11 w12 b11.out h12.out C12

open Go Go.RowKit
attribute [local go_sem ↓] Go.wp_at_zero Go.wp_at_succ

set_option maxRecDepth 1000000 in
set_option maxHeartbeats 4000000 in
/-- Is the name a long one? -/
theorem peOf_r37 {u0 u1 u2 u3 u4 u5 u6 u7 u8 u9 u10 u11 u12 u13 u14 u15 u16 u17 u18 u20 u21 u22 u23 u24 u25 u26 u27 u28 u29 u30 u31 u32 u33 u34 u35 u36 u37 u38 u39 u40 u41 u42 u43 u44 u45 u46 u47 u48 u49 u50 u51 u52 u53 u54 u55 u56 u57 u58 u59 u60 u61 u62 u63 u64 u65 u66 u67 u68 u69 u70 u71 u72 u73 u74 u75 u76 u77 u78 u79 u80 u81 u82 u83 u84 u85 u86 u87 u88 u89 u90 u91 u92 u93 u94 u95 u96 u97 u98 u99 u100 u101 u102 u103 u104 u105 u106 u107 u108 u109 u110 u111 u112 u113 u114 u115 u116 u117 u118 u119 u120 u121 u122 u123 u124 u125 u126 u127 u128 u129 u130 u131 u132 u133 u134 u135 u136 u137 u138 u139 u140 u141 u142 u143 u144 u145 u146 u147 u148 u149 u150 u151 u152 u153 u154 u155 u156 u157 u158 u159 u160 u161 u162 u163 u164 u165 u166 u167 u168 u169 u170 u171 u172 u173 u174 u175 u176 u177 u178 u179 u180 u181 u182 u183 u184 u185 u186 u187 u188 u189 u190 u191 u192 u193 u194 u195 u196 u197 u198 u199 u200 u201 u202 u203 u204 u205 u206 u207 u208 u209 u210 u211 u212 u213 u214 u215 u216 u217 u218 u219 u220 u221 u222 u223 u224 u225 u226 u227 u228 u229 u230 u231 u232 u233 u234 u235 u236 u237 u238 u239 u240 u241 u242 u243 u244 u245 u246 u247 u248 u249 u250 u251 u252 u253 u254 u255 u256 u257 u258 u259 u260 u261 u262 u263 u264 u265 u266 u267 u268 u269 u270 u271 u272 u273 u274 u275 u276 u277 u278 u279 u280 u281 u282 u283 u284 u285 u286 u287 u288 u289 u290 u291 u292 u293 u294 u295 u296 u297 u298 u299 u300 u301 u302 u303 u304 u305 u306 u307 u308 u309 u310 u311 u312 u313 u314 u315 u316 u317 u318 u319 u320 u321 u322 u323 u324 u325 u326 u327 u328 u329 u330 u331 u332 u333 u334 u335 u336 u337 u338 u339 u340 u341 u342 u343 u344 u345 u346 u347 u348 u349 u350 u351 u352 u353 u354 u355 u356 u357 u358 u359 u360 u361 u362 u363 u364 : Value} {V12 : Nat} {y : SymL} {w16 : World} {Q : Exit → Act → World → Prop}
    (r0 : w16.cell? ⟨V12, 0, none⟩ = some (.string ⟨y.name.toArray⟩)) (hn20 : y.name.length ≤ 20)
    (hQ : ∀ {t194 t195 t196 t197 t198 t199 t200 t201 t202 : Value}, Q .normal ⟨#[u0, u1, u2, u3, u4, u5, u6, u7, u8, u9, u10, u11, u12, u13, u14, u15, u16, u17, u18, .pointer (some ⟨V12, 0, none⟩), u20, u21, u22, u23, u24, u25, u26, u27, u28, u29, u30, u31, u32, u33, u34, u35, u36, u37, u38, u39, u40, u41, u42, u43, u44, u45, u46, u47, u48, u49, u50, u51, u52, u53, u54, u55, u56, u57, u58, u59, u60, u61, u62, u63, u64, u65, u66, u67, u68, u69, u70, u71, u72, u73, u74, u75, u76, u77, u78, u79, u80, u81, u82, u83, u84, u85, u86, u87, u88, u89, u90, u91, u92, u93, u94, u95, u96, u97, u98, u99, u100, u101, u102, u103, u104, u105, u106, u107, u108, u109, u110, u111, u112, u113, u114, u115, u116, u117, u118, u119, u120, u121, u122, u123, u124, u125, u126, u127, u128, u129, u130, u131, u132, u133, u134, u135, u136, u137, u138, u139, u140, u141, u142, u143, u144, u145, u146, u147, u148, u149, u150, u151, u152, u153, u154, u155, u156, u157, u158, u159, u160, u161, u162, u163, u164, u165, u166, u167, u168, u169, u170, u171, u172, u173, u174, u175, u176, u177, u178, u179, u180, u181, u182, u183, u184, u185, u186, u187, u188, u189, u190, u191, u192, u193, t194, t195, t196, t197, t198, t199, t200, t201, t202, .bool (longName y), u204, u205, u206, u207, u208, u209, u210, u211, u212, u213, u214, u215, u216, u217, u218, u219, u220, u221, u222, u223, u224, u225, u226, u227, u228, u229, u230, u231, u232, u233, u234, u235, u236, u237, u238, u239, u240, u241, u242, u243, u244, u245, u246, u247, u248, u249, u250, u251, u252, u253, u254, u255, u256, u257, u258, u259, u260, u261, u262, u263, u264, u265, u266, u267, u268, u269, u270, u271, u272, u273, u274, u275, u276, u277, u278, u279, u280, u281, u282, u283, u284, u285, u286, u287, u288, u289, u290, u291, u292, u293, u294, u295, u296, u297, u298, u299, u300, u301, u302, u303, u304, u305, u306, u307, u308, u309, u310, u311, u312, u313, u314, u315, u316, u317, u318, u319, u320, u321, u322, u323, u324, u325, u326, u327, u328, u329, u330, u331, u332, u333, u334, u335, u336, u337, u338, u339, u340, u341, u342, u343, u344, u345, u346, u347, u348, u349, u350, u351, u352, u353, u354, u355, u356, u357, u358, u359, u360, u361, u362, u363, u364], []⟩ w16) :
    Code.wp Tryz.prog (peR 37) Q ⟨#[u0, u1, u2, u3, u4, u5, u6, u7, u8, u9, u10, u11, u12, u13, u14, u15, u16, u17, u18, .pointer (some ⟨V12, 0, none⟩), u20, u21, u22, u23, u24, u25, u26, u27, u28, u29, u30, u31, u32, u33, u34, u35, u36, u37, u38, u39, u40, u41, u42, u43, u44, u45, u46, u47, u48, u49, u50, u51, u52, u53, u54, u55, u56, u57, u58, u59, u60, u61, u62, u63, u64, u65, u66, u67, u68, u69, u70, u71, u72, u73, u74, u75, u76, u77, u78, u79, u80, u81, u82, u83, u84, u85, u86, u87, u88, u89, u90, u91, u92, u93, u94, u95, u96, u97, u98, u99, u100, u101, u102, u103, u104, u105, u106, u107, u108, u109, u110, u111, u112, u113, u114, u115, u116, u117, u118, u119, u120, u121, u122, u123, u124, u125, u126, u127, u128, u129, u130, u131, u132, u133, u134, u135, u136, u137, u138, u139, u140, u141, u142, u143, u144, u145, u146, u147, u148, u149, u150, u151, u152, u153, u154, u155, u156, u157, u158, u159, u160, u161, u162, u163, u164, u165, u166, u167, u168, u169, u170, u171, u172, u173, u174, u175, u176, u177, u178, u179, u180, u181, u182, u183, u184, u185, u186, u187, u188, u189, u190, u191, u192, u193, u194, u195, u196, u197, u198, u199, u200, u201, u202, u203, u204, u205, u206, u207, u208, u209, u210, u211, u212, u213, u214, u215, u216, u217, u218, u219, u220, u221, u222, u223, u224, u225, u226, u227, u228, u229, u230, u231, u232, u233, u234, u235, u236, u237, u238, u239, u240, u241, u242, u243, u244, u245, u246, u247, u248, u249, u250, u251, u252, u253, u254, u255, u256, u257, u258, u259, u260, u261, u262, u263, u264, u265, u266, u267, u268, u269, u270, u271, u272, u273, u274, u275, u276, u277, u278, u279, u280, u281, u282, u283, u284, u285, u286, u287, u288, u289, u290, u291, u292, u293, u294, u295, u296, u297, u298, u299, u300, u301, u302, u303, u304, u305, u306, u307, u308, u309, u310, u311, u312, u313, u314, u315, u316, u317, u318, u319, u320, u321, u322, u323, u324, u325, u326, u327, u328, u329, u330, u331, u332, u333, u334, u335, u336, u337, u338, u339, u340, u341, u342, u343, u344, u345, u346, u347, u348, u349, u350, u351, u352, u353, u354, u355, u356, u357, u358, u359, u360, u361, u362, u363, u364], []⟩ w16 := by
  conv => arg 2; whnf
  by_cases h8 : 8 < y.name.length
  · have h8' : (8 : Int) < (y.name.length : Int) := by omega
    have hb : longName y = true := by simp [longName, h8]
    rw [hb] at hQ
    go_wp2_with fail
    exact hQ
  · have h8' : ¬ (8 : Int) < (y.name.length : Int) := by omega
    by_cases h0 : y.name.length = 0
    · have hb : longName y = true := by simp [longName, h0]
      have h0' : ((y.name.length : Int) == 0) = true := by simp [h0]
      rw [hb] at hQ
      go_wp2_with fail
      exact hQ
    · have hb : longName y = false := by simp [longName, h0]; omega
      have h0' : ((y.name.length : Int) == 0) = false := by simp [h0]
      rw [hb] at hQ
      go_wp2_with fail
      exact hQ

set_option maxRecDepth 1000000 in
set_option maxHeartbeats 4000000 in
/-- A symbol is pushed. -/
theorem peOf_r42 {u0 u1 u2 u3 u5 u6 u7 u8 u9 u10 u11 u12 u13 u14 u15 u16 u17 u18 u20 u21 u22 u23 u24 u25 u26 u27 u28 u29 u30 u31 u32 u33 u34 u35 u36 u37 u38 u39 u40 u41 u42 u43 u44 u45 u46 u47 u48 u49 u50 u51 u52 u53 u54 u55 u56 u57 u58 u59 u60 u61 u62 u63 u64 u65 u66 u67 u68 u69 u70 u71 u72 u73 u74 u75 u76 u77 u78 u79 u80 u81 u82 u83 u84 u85 u86 u87 u88 u89 u90 u91 u92 u93 u94 u95 u96 u97 u98 u99 u100 u101 u102 u103 u104 u105 u106 u107 u108 u109 u110 u111 u112 u113 u114 u115 u116 u117 u118 u119 u120 u121 u122 u123 u124 u125 u126 u127 u128 u129 u130 u131 u132 u133 u134 u135 u136 u137 u138 u139 u140 u141 u142 u143 u144 u145 u146 u147 u148 u149 u150 u151 u152 u153 u154 u155 u156 u157 u158 u159 u160 u161 u162 u163 u164 u165 u166 u167 u168 u169 u170 u171 u172 u173 u174 u175 u176 u177 u178 u179 u180 u181 u182 u183 u184 u185 u186 u187 u188 u189 u190 u191 u192 u193 u194 u195 u196 u197 u198 u199 u200 u201 u202 u203 u204 u205 u206 u207 u208 u209 u210 u211 u212 u213 u214 u215 u216 u217 u218 u219 u220 u221 u222 u223 u224 u225 u226 u227 u228 u229 u230 u231 u232 u233 u234 u235 u236 u237 u238 u239 u240 u241 u242 u243 u244 u245 u246 u247 u248 u249 u250 u251 u252 u253 u254 u255 u256 u257 u258 u259 u260 u261 u262 u263 u264 u265 u266 u267 u268 u269 u270 u271 u272 u273 u274 u275 u276 u277 u278 u279 u280 u281 u282 u283 u284 u285 u286 u287 u288 u289 u290 u291 u292 u293 u294 u295 u296 u297 u298 u299 u300 u301 u302 u303 u304 u305 u306 u307 u308 u309 u310 u311 u312 u313 u314 u315 u316 u317 u318 u319 u320 u321 u322 u323 u324 u325 u326 u327 u328 u329 u330 u331 u332 u333 u334 u335 u336 u337 u338 u339 u340 u341 u342 u343 u344 u345 u346 u347 u348 u349 u350 u351 u352 u353 u354 u355 u356 u357 u358 u359 u360 u361 u362 u363 u364 : Value} {V4 V12 base k vac : Nat} {VA : Option Addr} {y : SymL} {scs row4 : List Value} {wc : World} {Q : Exit → Act → World → Prop}
    (hs : Hid (wc.ownsRow base 45 5 (.slice VA k vac) k scs)) (hbase : base ≤ wc.heap.size) (g4 : Hid (wc.heap[V4]? = some (.cells row4.toArray 36 (0, 0)))) (h5 : row4[5]? = some (.slice VA k vac)) (hk : k ≤ 40)
    (g12 : Hid (wc.heap[V12]? = some (.cells #[.string ⟨y.name.toArray⟩, .int .u32 y.value, .int .i16 y.sect, .int .u16 y.typ, .int .u8 y.cls] 45 (0, 0))))
    (hQ : ∀ {t227 t228 t229 t230 t231 t232 : Value} (w22 : World) (o : Obj) (vs2 : Value) (cs2 : List Value), w22.ownsRow base 45 5 vs2 (k + 1) cs2 → (wc.alloc o).grownBy w22 (Value.slice VA k vac).ownBlock → Q .normal ⟨#[u0, u1, u2, u3, .pointer (some ⟨V4, 0, none⟩), u5, u6, u7, u8, u9, u10, u11, u12, u13, u14, u15, u16, u17, u18, .pointer (some ⟨V12, 0, none⟩), u20, u21, u22, u23, u24, u25, u26, u27, u28, u29, u30, u31, u32, u33, u34, u35, u36, u37, u38, u39, u40, u41, u42, u43, u44, u45, u46, u47, u48, u49, u50, u51, u52, u53, u54, u55, u56, u57, u58, u59, u60, u61, u62, u63, u64, u65, u66, u67, u68, u69, u70, u71, u72, u73, u74, u75, u76, u77, u78, u79, u80, u81, u82, u83, u84, u85, u86, u87, u88, u89, u90, u91, u92, u93, u94, u95, u96, u97, u98, u99, u100, u101, u102, u103, u104, u105, u106, u107, u108, u109, u110, u111, u112, u113, u114, u115, u116, u117, u118, u119, u120, u121, u122, u123, u124, u125, u126, u127, u128, u129, u130, u131, u132, u133, u134, u135, u136, u137, u138, u139, u140, u141, u142, u143, u144, u145, u146, u147, u148, u149, u150, u151, u152, u153, u154, u155, u156, u157, u158, u159, u160, u161, u162, u163, u164, u165, u166, u167, u168, u169, u170, u171, u172, u173, u174, u175, u176, u177, u178, u179, u180, u181, u182, u183, u184, u185, u186, u187, u188, u189, u190, u191, u192, u193, u194, u195, u196, u197, u198, u199, u200, u201, u202, u203, u204, u205, u206, u207, u208, u209, u210, u211, u212, u213, u214, u215, u216, u217, u218, u219, u220, u221, u222, u223, u224, u225, u226, t227, t228, t229, t230, t231, t232, u233, u234, u235, u236, u237, u238, u239, u240, u241, u242, u243, u244, u245, u246, u247, u248, u249, u250, u251, u252, u253, u254, u255, u256, u257, u258, u259, u260, u261, u262, u263, u264, u265, u266, u267, u268, u269, u270, u271, u272, u273, u274, u275, u276, u277, u278, u279, u280, u281, u282, u283, u284, u285, u286, u287, u288, u289, u290, u291, u292, u293, u294, u295, u296, u297, u298, u299, u300, u301, u302, u303, u304, u305, u306, u307, u308, u309, u310, u311, u312, u313, u314, u315, u316, u317, u318, u319, u320, u321, u322, u323, u324, u325, u326, u327, u328, u329, u330, u331, u332, u333, u334, u335, u336, u337, u338, u339, u340, u341, u342, u343, u344, u345, u346, u347, u348, u349, u350, u351, u352, u353, u354, u355, u356, u357, u358, u359, u360, u361, u362, u363, u364], []⟩ (w22.setCell ⟨V4, 5, none⟩ vs2)) :
    Code.wp Tryz.prog (peR 42) Q ⟨#[u0, u1, u2, u3, .pointer (some ⟨V4, 0, none⟩), u5, u6, u7, u8, u9, u10, u11, u12, u13, u14, u15, u16, u17, u18, .pointer (some ⟨V12, 0, none⟩), u20, u21, u22, u23, u24, u25, u26, u27, u28, u29, u30, u31, u32, u33, u34, u35, u36, u37, u38, u39, u40, u41, u42, u43, u44, u45, u46, u47, u48, u49, u50, u51, u52, u53, u54, u55, u56, u57, u58, u59, u60, u61, u62, u63, u64, u65, u66, u67, u68, u69, u70, u71, u72, u73, u74, u75, u76, u77, u78, u79, u80, u81, u82, u83, u84, u85, u86, u87, u88, u89, u90, u91, u92, u93, u94, u95, u96, u97, u98, u99, u100, u101, u102, u103, u104, u105, u106, u107, u108, u109, u110, u111, u112, u113, u114, u115, u116, u117, u118, u119, u120, u121, u122, u123, u124, u125, u126, u127, u128, u129, u130, u131, u132, u133, u134, u135, u136, u137, u138, u139, u140, u141, u142, u143, u144, u145, u146, u147, u148, u149, u150, u151, u152, u153, u154, u155, u156, u157, u158, u159, u160, u161, u162, u163, u164, u165, u166, u167, u168, u169, u170, u171, u172, u173, u174, u175, u176, u177, u178, u179, u180, u181, u182, u183, u184, u185, u186, u187, u188, u189, u190, u191, u192, u193, u194, u195, u196, u197, u198, u199, u200, u201, u202, u203, u204, u205, u206, u207, u208, u209, u210, u211, u212, u213, u214, u215, u216, u217, u218, u219, u220, u221, u222, u223, u224, u225, u226, u227, u228, u229, u230, u231, u232, u233, u234, u235, u236, u237, u238, u239, u240, u241, u242, u243, u244, u245, u246, u247, u248, u249, u250, u251, u252, u253, u254, u255, u256, u257, u258, u259, u260, u261, u262, u263, u264, u265, u266, u267, u268, u269, u270, u271, u272, u273, u274, u275, u276, u277, u278, u279, u280, u281, u282, u283, u284, u285, u286, u287, u288, u289, u290, u291, u292, u293, u294, u295, u296, u297, u298, u299, u300, u301, u302, u303, u304, u305, u306, u307, u308, u309, u310, u311, u312, u313, u314, u315, u316, u317, u318, u319, u320, u321, u322, u323, u324, u325, u326, u327, u328, u329, u330, u331, u332, u333, u334, u335, u336, u337, u338, u339, u340, u341, u342, u343, u344, u345, u346, u347, u348, u349, u350, u351, u352, u353, u354, u355, u356, u357, u358, u359, u360, u361, u362, u363, u364], []⟩ wc := by
  conv => arg 2; whnf
  have r0 := World.cell?_of_row g12.out 0 _ rfl
  have r1 := World.cell?_of_row g12.out 1 _ rfl
  have r2 := World.cell?_of_row g12.out 2 _ rfl
  have r3 := World.cell?_of_row g12.out 3 _ rfl
  have r4 := World.cell?_of_row g12.out 4 _ rfl
  have c45 := World.cell?_of_row g4.out 5 _ h5
  obtain ⟨iS, hiS, hS0, hS1, hS2⟩ := info_parts Tryz.infoPSymB
  have bl20 : Below wc.heap.size wc (wc.alloc (.cells #[.string ⟨y.name.toArray⟩, .int .u32 y.value, .int .i16 y.sect, .int .u16 y.typ, .int .u8 y.cls] 45)) := (Below.refl _ wc).alloc (Nat.le_refl _) _
  have hs20 := Lib.hid (owns_later hs.out bl20)
  have g420 := row_later bl20 g4
  clear bl20
  go_wp2_with (at_builtin; refine Stop.mk ?_)
  refine Stop.go ?_
  refine wpList_append_any rfl (.tmp 228) (.tmp 230) 27 rfl base 45 iS _ 5 32 Tryz.underlying27 hiS hS0 hS1 hS2 rfl (by omega) _ k scs rfl hs20.out (some ⟨wc.heap.size, 0, none⟩) 1 1 [.string ⟨y.name.toArray⟩, .int .u32 y.value, .int .i16 y.sect, .int .u16 y.typ, .int .u8 y.cls] rfl (rc_newN rfl rfl) (List.all_eq_true.1 rfl) (by simp only [maxLen]; omega) (by omega) (by simp; omega) ?_
  intro v22 w22 own22 g22 at22
  obtain ⟨VB, vbc, rfl, -, -, -⟩ := RT.of_owns own22
  have K22 := Keeps.of_grown hs20.out g22
  have g4d := K22.block _ _ _ _ g420.out (by decide)
  have c45 := World.cell?_of_row g4d 5 _ h5
  have f45 := frozen_of_row _ V4 5 _ _ g4d
  replace own22 := Lib.hid own22
  replace g22 := Lib.hid g22
  clear K22 g4d at22 r0 r1 r2 r3 r4
  go_wp2_with fail
  exact hQ w22 _ _ _ own22.out g22.out

set_option maxRecDepth 1000000 in
set_option maxHeartbeats 4000000 in
/-- Its record is pushed. -/
theorem peOf_r43 {u0 u1 u2 u3 u5 u6 u7 u8 u9 u10 u11 u12 u13 u14 u15 u16 u17 u18 u22 u23 u24 u25 u26 u27 u28 u29 u30 u31 u32 u33 u34 u35 u36 u37 u38 u39 u40 u41 u42 u43 u44 u45 u46 u47 u48 u49 u50 u51 u52 u53 u54 u55 u56 u57 u58 u59 u60 u61 u62 u63 u64 u65 u66 u67 u68 u69 u70 u71 u72 u73 u74 u75 u76 u77 u78 u79 u80 u81 u82 u83 u84 u85 u86 u87 u88 u89 u90 u91 u92 u93 u94 u95 u96 u97 u98 u99 u100 u101 u102 u103 u104 u105 u106 u107 u108 u109 u110 u111 u112 u113 u114 u115 u116 u117 u118 u119 u120 u121 u122 u123 u124 u125 u126 u127 u128 u129 u130 u131 u132 u133 u134 u135 u136 u137 u138 u139 u140 u141 u142 u143 u144 u145 u146 u147 u148 u149 u150 u151 u152 u153 u154 u155 u156 u157 u158 u159 u160 u161 u162 u163 u164 u165 u166 u167 u168 u169 u170 u171 u172 u173 u174 u175 u176 u177 u178 u179 u180 u181 u182 u183 u184 u185 u186 u187 u188 u189 u190 u191 u192 u193 u194 u195 u196 u197 u198 u199 u200 u201 u202 u203 u204 u205 u206 u207 u208 u209 u210 u211 u212 u213 u214 u215 u216 u217 u218 u219 u220 u221 u222 u223 u224 u225 u226 u227 u228 u229 u230 u231 u232 u233 u234 u235 u236 u237 u238 u239 u240 u241 u242 u243 u244 u245 u246 u247 u248 u249 u250 u251 u252 u253 u254 u255 u256 u257 u258 u259 u260 u261 u262 u263 u264 u265 u266 u267 u268 u269 u270 u271 u272 u273 u274 u275 u276 u277 u278 u279 u280 u281 u282 u283 u284 u285 u286 u287 u288 u289 u290 u291 u292 u293 u294 u295 u296 u297 u298 u299 u300 u301 u302 u303 u304 u305 u306 u307 u308 u309 u310 u311 u312 u313 u314 u315 u316 u317 u318 u319 u320 u321 u322 u323 u324 u325 u326 u327 u328 u329 u330 u331 u332 u333 u334 u335 u336 u337 u338 u339 u340 u341 u342 u343 u344 u345 u346 u347 u348 u349 u350 u351 u352 u353 u354 u355 u356 u357 u358 u359 u360 u361 u362 u363 u364 : Value} {V4 V12 G base n vcc : Nat} {VC : Option Addr} {y : SymL} {ccs row4 : List Value} {w23 : World} {Q : Exit → Act → World → Prop}
    (hc : Hid (w23.ownsRow base 66 6 (.slice VC n vcc) n ccs)) (hbase : base ≤ w23.heap.size) (g4 : Hid (w23.heap[V4]? = some (.cells row4.toArray 36 (0, 0)))) (h6 : row4[6]? = some (.slice VC n vcc)) (hn : n ≤ 40) (hax2 : y.aux ≤ 2)
    (g12 : Hid (w23.heap[V12]? = some (.cells #[.string ⟨y.name.toArray⟩, .int .u32 y.value, .int .i16 y.sect, .int .u16 y.typ, .int .u8 y.cls] 45 (0, 0))))
    (hQ : ∀ {t233 t234 t235 t236 t237 t238 t239 t240 t241 t242 t243 t244 t245 t246 t247 t248 t249 : Value} (w25 : World) (o : Obj) (vc2 : Value) (cs2 : List Value), w25.ownsRow base 66 6 vc2 (n + 1) cs2 → (w23.alloc o).grownBy w25 (Value.slice VC n vcc).ownBlock → Q .normal ⟨#[u0, u1, u2, u3, .pointer (some ⟨V4, 0, none⟩), u5, u6, u7, u8, u9, u10, u11, u12, u13, u14, u15, u16, u17, u18, .pointer (some ⟨V12, 0, none⟩), .slice (some ⟨G, 0, none⟩) 8 8, .int .i64 (y.aux : Int), u22, u23, u24, u25, u26, u27, u28, u29, u30, u31, u32, u33, u34, u35, u36, u37, u38, u39, u40, u41, u42, u43, u44, u45, u46, u47, u48, u49, u50, u51, u52, u53, u54, u55, u56, u57, u58, u59, u60, u61, u62, u63, u64, u65, u66, u67, u68, u69, u70, u71, u72, u73, u74, u75, u76, u77, u78, u79, u80, u81, u82, u83, u84, u85, u86, u87, u88, u89, u90, u91, u92, u93, u94, u95, u96, u97, u98, u99, u100, u101, u102, u103, u104, u105, u106, u107, u108, u109, u110, u111, u112, u113, u114, u115, u116, u117, u118, u119, u120, u121, u122, u123, u124, u125, u126, u127, u128, u129, u130, u131, u132, u133, u134, u135, u136, u137, u138, u139, u140, u141, u142, u143, u144, u145, u146, u147, u148, u149, u150, u151, u152, u153, u154, u155, u156, u157, u158, u159, u160, u161, u162, u163, u164, u165, u166, u167, u168, u169, u170, u171, u172, u173, u174, u175, u176, u177, u178, u179, u180, u181, u182, u183, u184, u185, u186, u187, u188, u189, u190, u191, u192, u193, u194, u195, u196, u197, u198, u199, u200, u201, u202, u203, u204, u205, u206, u207, u208, u209, u210, u211, u212, u213, u214, u215, u216, u217, u218, u219, u220, u221, u222, u223, u224, u225, u226, u227, u228, u229, u230, u231, u232, t233, t234, t235, t236, t237, t238, t239, t240, t241, t242, t243, t244, t245, t246, t247, t248, t249, u250, u251, u252, u253, u254, u255, u256, u257, u258, u259, u260, u261, u262, u263, u264, u265, u266, u267, u268, u269, u270, u271, u272, u273, u274, u275, u276, u277, u278, u279, u280, u281, u282, u283, u284, u285, u286, u287, u288, u289, u290, u291, u292, u293, u294, u295, u296, u297, u298, u299, u300, u301, u302, u303, u304, u305, u306, u307, u308, u309, u310, u311, u312, u313, u314, u315, u316, u317, u318, u319, u320, u321, u322, u323, u324, u325, u326, u327, u328, u329, u330, u331, u332, u333, u334, u335, u336, u337, u338, u339, u340, u341, u342, u343, u344, u345, u346, u347, u348, u349, u350, u351, u352, u353, u354, u355, u356, u357, u358, u359, u360, u361, u362, u363, u364], []⟩ (w25.setCell ⟨V4, 6, none⟩ vc2)) :
    Code.wp Tryz.prog (peR 43) Q ⟨#[u0, u1, u2, u3, .pointer (some ⟨V4, 0, none⟩), u5, u6, u7, u8, u9, u10, u11, u12, u13, u14, u15, u16, u17, u18, .pointer (some ⟨V12, 0, none⟩), .slice (some ⟨G, 0, none⟩) 8 8, .int .i64 (y.aux : Int), u22, u23, u24, u25, u26, u27, u28, u29, u30, u31, u32, u33, u34, u35, u36, u37, u38, u39, u40, u41, u42, u43, u44, u45, u46, u47, u48, u49, u50, u51, u52, u53, u54, u55, u56, u57, u58, u59, u60, u61, u62, u63, u64, u65, u66, u67, u68, u69, u70, u71, u72, u73, u74, u75, u76, u77, u78, u79, u80, u81, u82, u83, u84, u85, u86, u87, u88, u89, u90, u91, u92, u93, u94, u95, u96, u97, u98, u99, u100, u101, u102, u103, u104, u105, u106, u107, u108, u109, u110, u111, u112, u113, u114, u115, u116, u117, u118, u119, u120, u121, u122, u123, u124, u125, u126, u127, u128, u129, u130, u131, u132, u133, u134, u135, u136, u137, u138, u139, u140, u141, u142, u143, u144, u145, u146, u147, u148, u149, u150, u151, u152, u153, u154, u155, u156, u157, u158, u159, u160, u161, u162, u163, u164, u165, u166, u167, u168, u169, u170, u171, u172, u173, u174, u175, u176, u177, u178, u179, u180, u181, u182, u183, u184, u185, u186, u187, u188, u189, u190, u191, u192, u193, u194, u195, u196, u197, u198, u199, u200, u201, u202, u203, u204, u205, u206, u207, u208, u209, u210, u211, u212, u213, u214, u215, u216, u217, u218, u219, u220, u221, u222, u223, u224, u225, u226, u227, u228, u229, u230, u231, u232, u233, u234, u235, u236, u237, u238, u239, u240, u241, u242, u243, u244, u245, u246, u247, u248, u249, u250, u251, u252, u253, u254, u255, u256, u257, u258, u259, u260, u261, u262, u263, u264, u265, u266, u267, u268, u269, u270, u271, u272, u273, u274, u275, u276, u277, u278, u279, u280, u281, u282, u283, u284, u285, u286, u287, u288, u289, u290, u291, u292, u293, u294, u295, u296, u297, u298, u299, u300, u301, u302, u303, u304, u305, u306, u307, u308, u309, u310, u311, u312, u313, u314, u315, u316, u317, u318, u319, u320, u321, u322, u323, u324, u325, u326, u327, u328, u329, u330, u331, u332, u333, u334, u335, u336, u337, u338, u339, u340, u341, u342, u343, u344, u345, u346, u347, u348, u349, u350, u351, u352, u353, u354, u355, u356, u357, u358, u359, u360, u361, u362, u363, u364], []⟩ w23 := by
  conv => arg 2; whnf
  have r1 := World.cell?_of_row g12.out 1 _ rfl
  have r2 := World.cell?_of_row g12.out 2 _ rfl
  have r3 := World.cell?_of_row g12.out 3 _ rfl
  have r4 := World.cell?_of_row g12.out 4 _ rfl
  have c46 := World.cell?_of_row g4.out 6 _ h6
  obtain ⟨iC, hiC, hC0, hC1, hC2⟩ := info_parts Tryz.infoSpecCoff
  have hwa : IntKind.u8.wrap (y.aux : Int) = (y.aux : Int) := by rw [IntKind.wrap_u8]; omega
  have bl24 : Below w23.heap.size w23 (w23.alloc (.cells #[.slice (some ⟨G, 0, none⟩) 8 8, .int .u32 y.value, .int .i16 y.sect, .int .u16 y.typ, .int .u8 y.cls, .int .u8 y.aux] 66)) := (Below.refl _ w23).alloc (Nat.le_refl _) _
  have hc24 := Lib.hid (owns_later hc.out bl24)
  have g424 := row_later bl24 g4
  clear bl24
  go_wp2_with (at_builtin; refine Stop.mk ?_)
  refine Stop.go ?_
  refine wpList_append_any rfl (.tmp 234) (.tmp 247) 33 rfl base 66 iC _ 6 40 Tryz.underlying33 hiC hC0 hC1 hC2 rfl (by omega) _ n ccs rfl hc24.out (some ⟨w23.heap.size, 0, none⟩) 1 1 [.slice (some ⟨G, 0, none⟩) 8 8, .int .u32 y.value, .int .i16 y.sect, .int .u16 y.typ, .int .u8 y.cls, .int .u8 y.aux] rfl (rc_newN rfl rfl) (List.all_eq_true.1 rfl) (by simp only [maxLen]; omega) (by omega) (by simp; omega) ?_
  intro v25 w25 own25 g25 at25
  obtain ⟨VD, vdc, rfl, -, -, -⟩ := RT.of_owns own25
  have K25 := Keeps.of_grown hc24.out g25
  have g4d := K25.block _ _ _ _ g424.out (by decide)
  have c46 := World.cell?_of_row g4d 6 _ h6
  have f46 := frozen_of_row _ V4 6 _ _ g4d
  replace own25 := Lib.hid own25
  replace g25 := Lib.hid g25
  clear K25 g4d at25 r1 r2 r3 r4
  go_wp2_with fail
  exact hQ w25 _ _ _ own25.out g25.out
end Go.Proofs.YtbpebngjpecncaaGreatDoor
