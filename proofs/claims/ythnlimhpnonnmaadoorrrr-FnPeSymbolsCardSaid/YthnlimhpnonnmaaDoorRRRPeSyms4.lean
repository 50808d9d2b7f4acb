/-
  A record of the reference's table of symbols: the contract of slot.
-/
import Derived.Test.YthnlimhpnonnmaaDoorRRRPeSyms3
import Derived.Test.YthnlimhpnonnmaaDoorRRRPeCoffLaw
namespace Go.Proofs.YthnlimhpnonnmaaDoorRRR
set_option linter.unusedVariables false
set_option linter.unusedSimpArgs false
open Go Go.RowKit
attribute [local go_sem ↓] Go.wp_at_zero Go.wp_at_succ

theorem RT.take {T : TypeId} {w : World} {A : Option Addr} {n : Nat} {vs : List Value} (h : RT w T A 1 n vs) (k : Nat) (hk : k ≤ n) : RT w T A 1 k (vs.take k) :=
  ⟨by have := h.1; simp; omega, fun h0 => by
    obtain ⟨g, o, cur, fr, hA, hg, hc⟩ := h.2 (by omega)
    refine ⟨g, o, cur, fr, hA, hg, fun j u hu => hc j u ?_⟩
    rw [List.getElem?_take] at hu
    split at hu
    · exact hu
    · cases hu⟩

theorem zeroed_at {cur : Array Value} {m : List UInt8} (h18 : m.length = 18) (hcs : 18 ≤ cur.size) (hc : ∀ (j : Nat) (u : Value), (m.map bv)[j]? = some u → cur[j]? = some u) (j : Nat) (u : Value) (hu : ((m.take 15 ++ [0, 0, 0]).map bv)[j]? = some u) :
    (((cur.setIfInBounds 15 (.int .u8 0)).setIfInBounds 16 (.int .u8 0)).setIfInBounds 17 (.int .u8 0))[0 + j]? = some u := by
  rw [List.map_append] at hu
  rw [Nat.zero_add]
  by_cases hj : j < 15
  · rw [List.getElem?_append_left (by simp; omega), List.map_take, List.getElem?_take, if_pos hj] at hu
    rw [Array.getElem?_setIfInBounds, if_neg (by omega), Array.getElem?_setIfInBounds, if_neg (by omega), Array.getElem?_setIfInBounds, if_neg (by omega)]
    exact hc j u hu
  · rw [List.getElem?_append_right (by simp; omega)] at hu
    have hl : ((m.take 15).map bv).length = 15 := by simp; omega
    rw [hl] at hu
    have hj3 : j - 15 < 3 := by simpa using (List.getElem?_eq_some_iff.1 hu).1
    have : j = 15 ∨ j = 16 ∨ j = 17 := by omega
    rcases this with rfl | rfl | rfl
    · obtain rfl : bv 0 = u := by simpa using hu
      rw [Array.getElem?_setIfInBounds, if_neg (by omega), Array.getElem?_setIfInBounds, if_neg (by omega), Array.getElem?_setIfInBounds, if_pos rfl, if_pos (by omega)]; rfl
    · obtain rfl : bv 0 = u := by simpa using hu
      rw [Array.getElem?_setIfInBounds, if_neg (by omega), Array.getElem?_setIfInBounds, if_pos rfl, if_pos (by simp; omega)]; rfl
    · obtain rfl : bv 0 = u := by simpa using hu
      rw [Array.getElem?_setIfInBounds, if_pos rfl, if_pos (by simp; omega)]; rfl

theorem RT.zeroed {w : World} {T : TypeId} {g : Nat} {cur : Array Value} {m : List UInt8} (hg : w.heap[g]? = some (.cells cur T (0, 0))) (h18 : m.length = 18) (hcs : 18 ≤ cur.size) (hc : ∀ (j : Nat) (u : Value), (m.map bv)[j]? = some u → cur[j]? = some u) :
    RT (((w.setCell ⟨g, 15, none⟩ (.int .u8 0)).setCell ⟨g, 16, none⟩ (.int .u8 0)).setCell ⟨g, 17, none⟩ (.int .u8 0)) T (some ⟨g, 0, none⟩) 1 18 ((m.take 15 ++ [0, 0, 0]).map bv) :=
  ⟨by simp; omega, fun _ => ⟨g, 0, _, (0, 0), rfl, heap_setCell_same _ _ _ _ _ _ (heap_setCell_same _ _ _ _ _ _ (heap_setCell_same _ _ _ _ _ _ hg)), zeroed_at h18 hcs hc⟩⟩

theorem coffL_zeroed {m : List UInt8} (h18 : m.length = 18) : coffL (m.take 15 ++ [0, 0, 0]) = auxL m := by
  match m, h18 with
  | [y0, y1, y2, y3, y4, y5, y6, y7, y8, y9, y10, y11, y12, y13, y14, y15, y16, y17], _ =>
    have hy := y14.toNat_lt
    have e : IntKind.u16.wrap ((y14.toNat : Nat) : Int) = (y14.toNat : Int) := IntWalk.u16_in _ (by omega)
    simp [coffL, auxL, num_one, num, Lib.leNat, e]

theorem coffL_eight {m : List UInt8} (h : 8 ≤ m.length) : (coffL m).name.length = 8 := by simp [coffL]; omega

set_option maxRecDepth 100000 in
set_option maxHeartbeats 1000000 in
theorem slot_sym (A : Option Addr) (l : List UInt8) (n c : Nat) (hN : Hid (n = l.length)) (hc : n ≤ c) (hb : n ≤ 2147483647) (hZ : 18 ≤ n) (w : World) (hA : Hid (RB w A l)) :
    Calls Tryd.prog 39 #[.slice A n c, .bool false] w fun e w' => (∃ vs : List Value, e = .returned (.agg vs.toArray) ∧ IsCoff w' vs (coffL (l.take 18))) ∧ Below w.heap.size w w' := by
  obtain ⟨cc, hcc⟩ : ∃ cc, coffL (l.take 18) = cc := ⟨_, rfl⟩
  rw [hcc]
  obtain ⟨nm, x1, x2, x3, x4, x5⟩ := cc
  replace hcc := Lib.hid hcc
  obtain ⟨i0, hi, hz0, hz1, hz2⟩ := info_parts Tryd.infoByte
  have h18 := Lib.hid (show (l.take 18).length = 18 by have := hN.out; simp; omega)
  have hinfo : (Tryd.prog.info? 38).map (·.size) = some 6 := by kernel_rfl
  replace hinfo := Lib.hid hinfo
  obtain ⟨y15, y16, y17, hy15, hy16, hy17⟩ : ∃ y15 y16 y17, Hid (((l.take 18).map bv)[15]? = some (bv y15)) ∧ Hid (((l.take 18).map bv)[16]? = some (bv y16)) ∧ Hid (((l.take 18).map bv)[17]? = some (bv y17)) := by
    have := h18.out
    match l.take 18, this with
    | [y0, y1, y2, y3, y4, y5, y6, y7, y8, y9, y10, y11, y12, y13, y14, y15, y16, y17], _ => exact ⟨y15, y16, y17, Lib.hid rfl, Lib.hid rfl, Lib.hid rfl⟩
  have hsl := fun W => run_slice_to (P := Tryd.prog) Tryd.underlying22 hi A n c 18 (by omega) W
  have b1 := Lib.hid ((((Below.refl w.heap.size w).alloc (Nat.le_refl _) (.cells #[.slice none 0 0, .int .u32 0, .int .i16 0, .int .u16 0, .int .u8 0, .int .u8 0] 38))).alloc (by simp) (.cells #[] 5))
  have g1 := Lib.hid (heap_alloc2_old w (.cells #[.slice none 0 0, .int .u32 0, .int .i16 0, .int .u16 0, .int .u8 0, .int .u8 0] 38) (.cells #[] 5))
  have own1 : Hid (((w.alloc (.cells #[.slice none 0 0, .int .u32 0, .int .i16 0, .int .u16 0, .int .u8 0, .int .u8 0] 38)).alloc (.cells #[] 5)).ownsRow (w.heap.size + 1) 5 1 (.slice (some ⟨w.heap.size + 1, 0, none⟩) 0 0) 0 []) := by
    have := World.ownsRow_made (w.alloc (.cells #[.slice none 0 0, .int .u32 0, .int .i16 0, .int .u16 0, .int .u8 0, .int .u8 0] 38)) (e := 5) (size := 1) #[] 0 (Nat.le_refl _) (by simp [maxLen]) (by simp)
    rw [World.size_alloc] at this
    exact Lib.hid this
  have A1 := Lib.hid ((hA.out.later b1.out).take 18)
  have hr := A1.out.rc
  rw [h18.out] at hr
  replace hr := Lib.hid hr
  go_enter Tryd.func39, Tryd.ntmps39
  go_wp2_with (at_builtin; refine Stop.mk ?_)
  refine Stop.go ?_
  refine wpList_append_any rfl (.tmp 8) (.tmp 10) 22 rfl (w.heap.size + 1) 5 i0 (.int .u8 0) 1 1 Tryd.underlying22 hi hz0 hz1 hz2 rfl (by omega) (.slice (some ⟨w.heap.size + 1, 0, none⟩) 0 0) 0 [] rfl own1.out A 18 c ((l.take 18).map bv) rfl hr.out (bv_one _) (by simp only [maxLen]; omega) (by omega) (by simp) ?_
  intro v1 w2 hown hgr hat
  have b2 := Lib.hid (b1.out.grown hgr (by first | omega | (simp; omega)) (fun q hq => by have := (own1.out.lt q hq).1; omega))
  have g2 := Lib.hid (show w2.heap[w.heap.size]? = _ from (Keeps.of_grown own1.out hgr).block _ _ _ _ g1.out (by decide))
  obtain ⟨g, cap, cur, rfl, hgb, G2, hcap, -, hcz, htk⟩ := (hown.2.resolve_left (by rintro ⟨-, h⟩; omega))
  have hcs : 18 ≤ cur.size := by omega
  have hcl := Lib.hid (show ∀ (j : Nat) (u : Value), ((l.take 18).map bv)[j]? = some u → cur[j]? = some u from fun j u hu => by
    simp only [List.nil_append] at htk
    rw [← htk, List.getElem?_take] at hu
    split at hu
    · simpa using hu
    · cases hu)
  replace G2 := Lib.hid G2
  have hgn : w.heap.size ≠ g := by omega
  clear hown hgr hat htk own1 hr A1 g1 b1 hcz
  have R2 : Hid (RT w2 5 (some ⟨g, 0, none⟩) 1 18 ((l.take 18).map bv)) := Lib.hid ⟨by have := h18.out; rw [List.length_map, this], fun _ => ⟨g, 0, _, (0, 0), rfl, G2.out, fun j u hu => by rw [Nat.zero_add]; exact hcl.out j u hu⟩⟩
  have bz := b2
  have GW := g2
  have hx := hcc
  clear hy15 hy16 hy17
  go_wp2_with fail
  have hl' := Lib.hid (show 18 = (l.take 18).length by have := h18.out; simp at this; simp; omega)
  refine (specCoff_all (some ⟨g, 0, none⟩) (l.take 18) 18 cap hl' (by omega) (by omega) (by omega) w2 R2.out.bytes).mono ?_
  rintro e w4 ⟨rfl, b4⟩
  have h8 := Lib.hid (coffL_eight (m := l.take 18) (by have := hl'.out; omega))
  have R4 := Lib.hid ((R2.out.take 8 (by omega)).later b4)
  rw [← List.map_take] at R4
  have hnm : Hid ((l.take 18).take 8 = (coffL (l.take 18)).name) := Lib.hid rfl
  rw [hnm.out] at R4
  rw [hx.out]
  rw [hx.out] at h8 R4
  have G4 := row_later b4 GW
  have b5 := Lib.hid (bz.out.trans (b4.mono bz.out.size))
  have hz4 := b5.out.size
  have hlt4 : w.heap.size < w4.heap.size := (Array.getElem?_eq_some_iff.1 G4.out).1
  clear hl' hnm hx R2 GW b4 bz b2 g2 hcl h18
  simp only [symTail] at *
  have g6 := Lib.hid (heap_alloc_new w4 (.cells #[.slice none 0 0, .int .u32 0, .int .i16 0, .int .u16 0, .int .u8 0, .int .u8 0] 38))
  have b6 : Below w4.heap.size w4 ((w4.alloc (.cells #[.slice none 0 0, .int .u32 0, .int .i16 0, .int .u16 0, .int .u8 0, .int .u8 0] 38)).setRow w4.heap.size #[.slice (some ⟨g, 0, none⟩) 8 cap, .int .u32 x1, .int .i16 x2, .int .u16 x3, .int .u8 x4, .int .u8 x5]) := below_setRow ((Below.refl _ _).alloc (Nat.le_refl _) _) (Nat.le_refl _) _
  have G6 := row_later b6 G4
  have g7 := Lib.hid ((congrArg (fun x : World => x.heap[w4.heap.size]?) (World.setRow_alloc_new w4 #[.slice none 0 0, .int .u32 0, .int .i16 0, .int .u16 0, .int .u8 0, .int .u8 0] #[.slice (some ⟨g, 0, none⟩) 8 cap, .int .u32 x1, .int .i16 x2, .int .u16 x3, .int .u8 x4, .int .u8 x5] 38)).trans (heap_alloc_new w4 _))
  have R6 := Lib.hid (R4.out.later b6)
  have b7 := Lib.hid (b5.out.trans (b6.mono hz4))
  clear b6 b5 R4 G4
  have d0 := World.cell?_of_row g7.out 0 _ rfl
  have d1 := World.cell?_of_row g7.out 1 _ rfl
  have d2 := World.cell?_of_row g7.out 2 _ rfl
  have d3 := World.cell?_of_row g7.out 3 _ rfl
  have d4 := World.cell?_of_row g7.out 4 _ rfl
  have d5 := World.cell?_of_row g7.out 5 _ rfl
  have g8 := Lib.hid (setRow_heap ((w4.alloc (.cells #[.slice none 0 0, .int .u32 0, .int .i16 0, .int .u16 0, .int .u8 0, .int .u8 0] 38)).setRow w4.heap.size #[.slice (some ⟨g, 0, none⟩) 8 cap, .int .u32 x1, .int .i16 x2, .int .u16 x3, .int .u8 x4, .int .u8 x5]) w.heap.size #[.slice none 0 0, .int .u32 0, .int .i16 0, .int .u16 0, .int .u8 0, .int .u8 0] #[.slice (some ⟨g, 0, none⟩) 8 cap, .int .u32 x1, .int .i16 x2, .int .u16 x3, .int .u8 x4, .int .u8 x5] 38 (0, 0) G6.out)
  have hc8 : Chg (· = w.heap.size) ((w4.alloc (.cells #[.slice none 0 0, .int .u32 0, .int .i16 0, .int .u16 0, .int .u8 0, .int .u8 0] 38)).setRow w4.heap.size #[.slice (some ⟨g, 0, none⟩) 8 cap, .int .u32 x1, .int .i16 x2, .int .u16 x3, .int .u8 x4, .int .u8 x5]) (((w4.alloc (.cells #[.slice none 0 0, .int .u32 0, .int .i16 0, .int .u16 0, .int .u8 0, .int .u8 0] 38)).setRow w4.heap.size #[.slice (some ⟨g, 0, none⟩) 8 cap, .int .u32 x1, .int .i16 x2, .int .u16 x3, .int .u8 x4, .int .u8 x5]).setRow w.heap.size #[.slice (some ⟨g, 0, none⟩) 8 cap, .int .u32 x1, .int .i16 x2, .int .u16 x3, .int .u8 x4, .int .u8 x5]) := ⟨rfl, rfl, rfl, by simp, fun k _ hk => setRow_other _ w.heap.size k _ hk⟩
  have R8 := Lib.hid (R6.out.keeps (Keeps.of_chg (e := 38) hc8 (fun k _ hk => by subst hk; exact ⟨_, _, G6.out⟩)) (by decide))
  have b8 := Lib.hid (b7.out.trans (hc8.below (by simp; omega) (fun k hk e => by omega)))
  clear hc8 R6 b7
  go_wp2_with (first | (refine wpList_store_row rfl 38 _ _ rfl w4.heap.size 38 #[.slice none 0 0, .int .u32 0, .int .i16 0, .int .u16 0, .int .u8 0, .int .u8 0] #[.slice (some ⟨g, 0, none⟩) 8 cap, .int .u32 x1, .int .i16 x2, .int .u16 x3, .int .u8 x4, .int .u8 x5] rfl rfl g6.out rfl hinfo.out (List.all_eq_true.1 rfl) ?_) | (refine wpList_store_row rfl 38 _ _ rfl w.heap.size 38 #[.slice none 0 0, .int .u32 0, .int .i16 0, .int .u16 0, .int .u8 0, .int .u8 0] #[.slice (some ⟨g, 0, none⟩) 8 cap, .int .u32 x1, .int .i16 x2, .int .u16 x3, .int .u8 x4, .int .u8 x5] rfl rfl G6.out rfl hinfo.out (List.all_eq_true.1 rfl) ?_))
  exact bodyPost_ret (results_cell_row rfl _ _ w.heap.size 38 #[.slice (some ⟨g, 0, none⟩) 8 cap, .int .u32 x1, .int .i16 x2, .int .u16 x3, .int .u8 x4, .int .u8 x5] (0, 0) _ rfl g8.out Tryd.underlying38 rfl hinfo.out) rfl
    ⟨⟨_, rfl, _, _, rfl, h8.out, R8.out⟩, b8.out⟩

set_option maxRecDepth 100000 in
set_option maxHeartbeats 1000000 in
theorem slot_aux (A : Option Addr) (l : List UInt8) (n c : Nat) (hN : Hid (n = l.length)) (hc : n ≤ c) (hb : n ≤ 2147483647) (hZ : 18 ≤ n) (w : World) (hA : Hid (RB w A l)) :
    Calls Tryd.prog 39 #[.slice A n c, .bool true] w fun e w' => (∃ vs : List Value, e = .returned (.agg vs.toArray) ∧ IsCoff w' vs (auxL (l.take 18))) ∧ Below w.heap.size w w' := by
  obtain ⟨cc, hcc⟩ : ∃ cc, auxL (l.take 18) = cc := ⟨_, rfl⟩
  rw [hcc]
  obtain ⟨nm, x1, x2, x3, x4, x5⟩ := cc
  replace hcc := Lib.hid hcc
  obtain ⟨i0, hi, hz0, hz1, hz2⟩ := info_parts Tryd.infoByte
  have h18 := Lib.hid (show (l.take 18).length = 18 by have := hN.out; simp; omega)
  have hinfo : (Tryd.prog.info? 38).map (·.size) = some 6 := by kernel_rfl
  replace hinfo := Lib.hid hinfo
  obtain ⟨y15, y16, y17, hy15, hy16, hy17⟩ : ∃ y15 y16 y17, Hid (((l.take 18).map bv)[15]? = some (bv y15)) ∧ Hid (((l.take 18).map bv)[16]? = some (bv y16)) ∧ Hid (((l.take 18).map bv)[17]? = some (bv y17)) := by
    have := h18.out
    match l.take 18, this with
    | [y0, y1, y2, y3, y4, y5, y6, y7, y8, y9, y10, y11, y12, y13, y14, y15, y16, y17], _ => exact ⟨y15, y16, y17, Lib.hid rfl, Lib.hid rfl, Lib.hid rfl⟩
  have hsl := fun W => run_slice_to (P := Tryd.prog) Tryd.underlying22 hi A n c 18 (by omega) W
  have b1 := Lib.hid ((((Below.refl w.heap.size w).alloc (Nat.le_refl _) (.cells #[.slice none 0 0, .int .u32 0, .int .i16 0, .int .u16 0, .int .u8 0, .int .u8 0] 38))).alloc (by simp) (.cells #[] 5))
  have g1 := Lib.hid (heap_alloc2_old w (.cells #[.slice none 0 0, .int .u32 0, .int .i16 0, .int .u16 0, .int .u8 0, .int .u8 0] 38) (.cells #[] 5))
  have own1 : Hid (((w.alloc (.cells #[.slice none 0 0, .int .u32 0, .int .i16 0, .int .u16 0, .int .u8 0, .int .u8 0] 38)).alloc (.cells #[] 5)).ownsRow (w.heap.size + 1) 5 1 (.slice (some ⟨w.heap.size + 1, 0, none⟩) 0 0) 0 []) := by
    have := World.ownsRow_made (w.alloc (.cells #[.slice none 0 0, .int .u32 0, .int .i16 0, .int .u16 0, .int .u8 0, .int .u8 0] 38)) (e := 5) (size := 1) #[] 0 (Nat.le_refl _) (by simp [maxLen]) (by simp)
    rw [World.size_alloc] at this
    exact Lib.hid this
  have A1 := Lib.hid ((hA.out.later b1.out).take 18)
  have hr := A1.out.rc
  rw [h18.out] at hr
  replace hr := Lib.hid hr
  go_enter Tryd.func39, Tryd.ntmps39
  go_wp2_with (at_builtin; refine Stop.mk ?_)
  refine Stop.go ?_
  refine wpList_append_any rfl (.tmp 8) (.tmp 10) 22 rfl (w.heap.size + 1) 5 i0 (.int .u8 0) 1 1 Tryd.underlying22 hi hz0 hz1 hz2 rfl (by omega) (.slice (some ⟨w.heap.size + 1, 0, none⟩) 0 0) 0 [] rfl own1.out A 18 c ((l.take 18).map bv) rfl hr.out (bv_one _) (by simp only [maxLen]; omega) (by omega) (by simp) ?_
  intro v1 w2 hown hgr hat
  have b2 := Lib.hid (b1.out.grown hgr (by first | omega | (simp; omega)) (fun q hq => by have := (own1.out.lt q hq).1; omega))
  have g2 := Lib.hid (show w2.heap[w.heap.size]? = _ from (Keeps.of_grown own1.out hgr).block _ _ _ _ g1.out (by decide))
  obtain ⟨g, cap, cur, rfl, hgb, G2, hcap, -, hcz, htk⟩ := (hown.2.resolve_left (by rintro ⟨-, h⟩; omega))
  have hcs : 18 ≤ cur.size := by omega
  have hcl := Lib.hid (show ∀ (j : Nat) (u : Value), ((l.take 18).map bv)[j]? = some u → cur[j]? = some u from fun j u hu => by
    simp only [List.nil_append] at htk
    rw [← htk, List.getElem?_take] at hu
    split at hu
    · simpa using hu
    · cases hu)
  replace G2 := Lib.hid G2
  have hgn : w.heap.size ≠ g := by omega
  clear hown hgr hat htk own1 hr A1 g1 b1 hcz
  have c15 : w2.cell? ⟨g, 15, none⟩ = some (.int .u8 (y15.toNat : Int)) := by rw [cell_of_row w2 g 15 _ _ _ G2.out]; exact hcl.out 15 (bv y15) hy15.out
  have c16 : w2.cell? ⟨g, 16, none⟩ = some (.int .u8 (y16.toNat : Int)) := by rw [cell_of_row w2 g 16 _ _ _ G2.out]; exact hcl.out 16 (bv y16) hy16.out
  have c17 : w2.cell? ⟨g, 17, none⟩ = some (.int .u8 (y17.toNat : Int)) := by rw [cell_of_row w2 g 17 _ _ _ G2.out]; exact hcl.out 17 (bv y17) hy17.out
  have R2 := Lib.hid (RT.zeroed G2.out h18.out hcs hcl.out)
  have bz : Hid (Below w.heap.size w (((w2.setCell ⟨g, 15, none⟩ (.int .u8 0)).setCell ⟨g, 16, none⟩ (.int .u8 0)).setCell ⟨g, 17, none⟩ (.int .u8 0))) := Lib.hid (by
    refine Below.setCell (Below.setCell (Below.setCell b2.out ?_ _) ?_ _) ?_ _ <;> (show w.heap.size ≤ g; omega))
  have GW := Lib.hid (((heap_setCell_other ((w2.setCell ⟨g, 15, none⟩ (.int .u8 0)).setCell ⟨g, 16, none⟩ (.int .u8 0)) ⟨g, 17, none⟩ w.heap.size (.int .u8 0) hgn).trans ((heap_setCell_other (w2.setCell ⟨g, 15, none⟩ (.int .u8 0)) ⟨g, 16, none⟩ w.heap.size (.int .u8 0) hgn).trans (heap_setCell_other w2 ⟨g, 15, none⟩ w.heap.size (.int .u8 0) hgn))).trans g2.out)
  have f15 := frozen_of_row w2 g 15 _ _ G2.out
  have f16 := frozen_of_row w2 g 16 _ _ G2.out
  have f17 := frozen_of_row w2 g 17 _ _ G2.out
  have hx := Lib.hid ((coffL_zeroed h18.out).trans hcc.out)
  clear hy15 hy16 hy17
  go_wp2_with fail
  generalize (((w2.setCell ⟨g, 15, none⟩ (.int .u8 0)).setCell ⟨g, 16, none⟩ (.int .u8 0)).setCell ⟨g, 17, none⟩ (.int .u8 0)) = w3 at *
  have hl' := Lib.hid (show 18 = ((l.take 18).take 15 ++ [0, 0, 0]).length by have := h18.out; simp at this; simp; omega)
  refine (specCoff_all (some ⟨g, 0, none⟩) ((l.take 18).take 15 ++ [0, 0, 0]) 18 cap hl' (by omega) (by omega) (by omega) w3 R2.out.bytes).mono ?_
  rintro e w4 ⟨rfl, b4⟩
  have h8 := Lib.hid (coffL_eight (m := (l.take 18).take 15 ++ [0, 0, 0]) (by have := hl'.out; omega))
  have R4 := Lib.hid ((R2.out.take 8 (by omega)).later b4)
  rw [← List.map_take] at R4
  have hnm : Hid (((l.take 18).take 15 ++ [0, 0, 0]).take 8 = (coffL ((l.take 18).take 15 ++ [0, 0, 0])).name) := Lib.hid rfl
  rw [hnm.out] at R4
  rw [hx.out]
  rw [hx.out] at h8 R4
  have G4 := row_later b4 GW
  have b5 := Lib.hid (bz.out.trans (b4.mono bz.out.size))
  have hz4 := b5.out.size
  have hlt4 : w.heap.size < w4.heap.size := (Array.getElem?_eq_some_iff.1 G4.out).1
  clear hl' hnm hx R2 GW b4 bz b2 g2 hcl h18
  simp only [symTail] at *
  have g6 := Lib.hid (heap_alloc_new w4 (.cells #[.slice none 0 0, .int .u32 0, .int .i16 0, .int .u16 0, .int .u8 0, .int .u8 0] 38))
  have b6 : Below w4.heap.size w4 ((w4.alloc (.cells #[.slice none 0 0, .int .u32 0, .int .i16 0, .int .u16 0, .int .u8 0, .int .u8 0] 38)).setRow w4.heap.size #[.slice (some ⟨g, 0, none⟩) 8 cap, .int .u32 x1, .int .i16 x2, .int .u16 x3, .int .u8 x4, .int .u8 x5]) := below_setRow ((Below.refl _ _).alloc (Nat.le_refl _) _) (Nat.le_refl _) _
  have G6 := row_later b6 G4
  have g7 := Lib.hid ((congrArg (fun x : World => x.heap[w4.heap.size]?) (World.setRow_alloc_new w4 #[.slice none 0 0, .int .u32 0, .int .i16 0, .int .u16 0, .int .u8 0, .int .u8 0] #[.slice (some ⟨g, 0, none⟩) 8 cap, .int .u32 x1, .int .i16 x2, .int .u16 x3, .int .u8 x4, .int .u8 x5] 38)).trans (heap_alloc_new w4 _))
  have R6 := Lib.hid (R4.out.later b6)
  have b7 := Lib.hid (b5.out.trans (b6.mono hz4))
  clear b6 b5 R4 G4
  have d0 := World.cell?_of_row g7.out 0 _ rfl
  have d1 := World.cell?_of_row g7.out 1 _ rfl
  have d2 := World.cell?_of_row g7.out 2 _ rfl
  have d3 := World.cell?_of_row g7.out 3 _ rfl
  have d4 := World.cell?_of_row g7.out 4 _ rfl
  have d5 := World.cell?_of_row g7.out 5 _ rfl
  have g8 := Lib.hid (setRow_heap ((w4.alloc (.cells #[.slice none 0 0, .int .u32 0, .int .i16 0, .int .u16 0, .int .u8 0, .int .u8 0] 38)).setRow w4.heap.size #[.slice (some ⟨g, 0, none⟩) 8 cap, .int .u32 x1, .int .i16 x2, .int .u16 x3, .int .u8 x4, .int .u8 x5]) w.heap.size #[.slice none 0 0, .int .u32 0, .int .i16 0, .int .u16 0, .int .u8 0, .int .u8 0] #[.slice (some ⟨g, 0, none⟩) 8 cap, .int .u32 x1, .int .i16 x2, .int .u16 x3, .int .u8 x4, .int .u8 x5] 38 (0, 0) G6.out)
  have hc8 : Chg (· = w.heap.size) ((w4.alloc (.cells #[.slice none 0 0, .int .u32 0, .int .i16 0, .int .u16 0, .int .u8 0, .int .u8 0] 38)).setRow w4.heap.size #[.slice (some ⟨g, 0, none⟩) 8 cap, .int .u32 x1, .int .i16 x2, .int .u16 x3, .int .u8 x4, .int .u8 x5]) (((w4.alloc (.cells #[.slice none 0 0, .int .u32 0, .int .i16 0, .int .u16 0, .int .u8 0, .int .u8 0] 38)).setRow w4.heap.size #[.slice (some ⟨g, 0, none⟩) 8 cap, .int .u32 x1, .int .i16 x2, .int .u16 x3, .int .u8 x4, .int .u8 x5]).setRow w.heap.size #[.slice (some ⟨g, 0, none⟩) 8 cap, .int .u32 x1, .int .i16 x2, .int .u16 x3, .int .u8 x4, .int .u8 x5]) := ⟨rfl, rfl, rfl, by simp, fun k _ hk => setRow_other _ w.heap.size k _ hk⟩
  have R8 := Lib.hid (R6.out.keeps (Keeps.of_chg (e := 38) hc8 (fun k _ hk => by subst hk; exact ⟨_, _, G6.out⟩)) (by decide))
  have b8 := Lib.hid (b7.out.trans (hc8.below (by simp; omega) (fun k hk e => by omega)))
  clear hc8 R6 b7
  go_wp2_with (first | (refine wpList_store_row rfl 38 _ _ rfl w4.heap.size 38 #[.slice none 0 0, .int .u32 0, .int .i16 0, .int .u16 0, .int .u8 0, .int .u8 0] #[.slice (some ⟨g, 0, none⟩) 8 cap, .int .u32 x1, .int .i16 x2, .int .u16 x3, .int .u8 x4, .int .u8 x5] rfl rfl g6.out rfl hinfo.out (List.all_eq_true.1 rfl) ?_) | (refine wpList_store_row rfl 38 _ _ rfl w.heap.size 38 #[.slice none 0 0, .int .u32 0, .int .i16 0, .int .u16 0, .int .u8 0, .int .u8 0] #[.slice (some ⟨g, 0, none⟩) 8 cap, .int .u32 x1, .int .i16 x2, .int .u16 x3, .int .u8 x4, .int .u8 x5] rfl rfl G6.out rfl hinfo.out (List.all_eq_true.1 rfl) ?_))
  exact bodyPost_ret (results_cell_row rfl _ _ w.heap.size 38 #[.slice (some ⟨g, 0, none⟩) 8 cap, .int .u32 x1, .int .i16 x2, .int .u16 x3, .int .u8 x4, .int .u8 x5] (0, 0) _ rfl g8.out Tryd.underlying38 rfl hinfo.out) rfl
    ⟨⟨_, rfl, _, _, rfl, h8.out, R8.out⟩, b8.out⟩
end Go.Proofs.YthnlimhpnonnmaaDoorRRR
