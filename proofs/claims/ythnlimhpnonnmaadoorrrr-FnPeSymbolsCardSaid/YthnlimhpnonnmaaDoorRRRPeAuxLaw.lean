/-
  The auxiliary record of a section: the contracts of auxFormat5, ZZAuxSymbol, PeAux; the walk of the law FnPeAux.
-/
import Derived.Test.YthnlimhpnonnmaaDoorRRRAux
import Derived.Test.YthnlimhpnonnmaaDoorRRRPeCoffLaw
namespace Go.Proofs.YthnlimhpnonnmaaDoorRRR
set_option linter.unusedVariables false
set_option linter.unusedSimpArgs false
open Go Go.RowKit
attribute [local go_sem ↓] Go.wp_at_zero Go.wp_at_succ

/-- What an auxiliary record tells, as cells. -/
def auxCells (c : CoffL) : List Value := [.int .u32 ((num false (c.name.take 4) : Nat) : Int), .int .u16 ((num false ((c.name.drop 4).take 2) : Nat) : Int), .int .u16 ((num false ((c.name.drop 6).take 2) : Nat) : Int), .int .u32 c.value, .int .u16 (IntKind.u16.wrap c.sect), .int .u8 (IntKind.u8.wrap c.typ), .int .u8 0, .int .u8 0, .int .u8 0]
/-- An auxiliary record out of its bytes. -/
def auxL (s : List UInt8) : CoffL := ⟨s.take 8, (num false ((s.drop 8).take 4) : Nat), IntKind.i16.wrap (num false ((s.drop 12).take 2) : Nat), IntKind.u16.wrap (num false ((s.drop 14).take 1) : Nat), 0, 0⟩
theorem fAux_eq (s : List UInt8) : fAux s = symCells (auxL s) := rfl
def zeroL : CoffL := ⟨[0, 0, 0, 0, 0, 0, 0, 0], 0, 0, 0, 0, 0⟩
theorem zero_cells : symCells zeroL = [.int .u8 0, .int .u8 0, .int .u8 0, .int .u8 0, .int .u8 0, .int .u8 0, .int .u8 0, .int .u8 0, .int .u32 0, .int .i16 0, .int .u16 0, .int .u8 0, .int .u8 0] := rfl

theorem u16_RB0 (b o n c : Nat) (l : List UInt8) (w : World) (h : RB w (some ⟨b, o, none⟩) l) (hl : 2 ≤ l.length) (hn : 2 ≤ n) (hc : n ≤ c) :
    Calls Tryd.prog 52 #[.int .u8 0, .slice (some ⟨b, o, none⟩) n c] w fun e w' => e = .returned (.int .u16 (num false (l.take 2) : Nat)) ∧ ∃ q, w' = w.drewN q := u16_RB false b o n c l w h hl hn hc
theorem u32_RB0 (b o n c : Nat) (l : List UInt8) (w : World) (h : RB w (some ⟨b, o, none⟩) l) (hl : 4 ≤ l.length) (hn : 4 ≤ n) (hc : n ≤ c) :
    Calls Tryd.prog 53 #[.int .u8 0, .slice (some ⟨b, o, none⟩) n c] w fun e w' => e = .returned (.int .u32 (num false (l.take 4) : Nat)) ∧ ∃ q, w' = w.drewN q := u32_RB false b o n c l w h hl hn hc

set_option maxRecDepth 100000 in
set_option maxHeartbeats 2000000 in
theorem auxFormat5_any (V o : Nat) (pre post : List Value) (c : CoffL) (TV : TypeId) (w : World) (hO : Hid (pre.length = o)) (h8 : c.name.length = 8) (hV : Hid (w.heap[V]? = some (.cells (pre ++ (symCells c ++ post)).toArray TV (0, 0)))) :
    Calls Tryd.prog 47 #[.pointer (some ⟨V, o, none⟩)] w fun e w' => (∃ g, e = .returned (.pointer (some ⟨g, 0, none⟩)) ∧ w.heap.size ≤ g ∧ Hid (w'.heap[g]? = some (.cells (auxCells c).toArray 78 (0, 0)))) ∧ Below w.heap.size w w' := by
  obtain ⟨nm, x1, x2, x3, x4, x5⟩ := c
  have e : symCells ⟨nm, x1, x2, x3, x4, x5⟩ = nm.map bv ++ [.int .u32 x1, .int .i16 x2, .int .u16 x3, .int .u8 x4, .int .u8 x5] := rfl
  rw [e] at hV
  clear e
  have hnl : (nm.map bv).length = 8 := by simpa using h8
  have nm0 : RB w (some ⟨V, o, none⟩) nm := RB.of_mid (pre := pre) (post := [.int .u32 x1, .int .i16 x2, .int .u16 x3, .int .u8 x4, .int .u8 x5] ++ post) hV.out (by simp) o hO.out
  have nm4 : RB w (some ⟨V, o + 4, none⟩) (nm.drop 4) := by
    have := nm0.drop (c := 8) (by simpa using Nat.le_of_eq h8) 4
    rwa [slA_some V o 8 4 (by omega)] at this
  have nm6 : RB w (some ⟨V, o + 6, none⟩) (nm.drop 6) := by
    have := nm0.drop (c := 8) (by simpa using Nat.le_of_eq h8) 6
    rwa [slA_some V o 8 6 (by omega)] at this
  replace nm0 := Lib.hid nm0
  replace nm4 := Lib.hid nm4
  replace nm6 := Lib.hid nm6
  have cm : ∀ (j : Nat) (v : Value), ([.int .u32 x1, .int .i16 x2, .int .u16 x3, .int .u8 x4, .int .u8 x5] : List Value)[j]? = some v → w.cell? ⟨V, o + (8 + j), none⟩ = some v := fun j v hv => cell_mid hO hV (8 + j) (by rw [List.getElem?_append_right (by omega), hnl, Nat.add_sub_cancel_left]; exact hv)
  have c8 : w.cell? ⟨V, o + 8, none⟩ = some (.int .u32 x1) := cm 0 _ rfl
  have c9 : w.cell? ⟨V, o + 9, none⟩ = some (.int .i16 x2) := cm 1 _ rfl
  have c10 : w.cell? ⟨V, o + 10, none⟩ = some (.int .u16 x3) := cm 2 _ rfl
  have H8 := Lib.hid h8
  have HU4 := Lib.hid (fun q => u16_RB0 V (o + 4) 4 4 (nm.drop 4) (w.drewN q) (nm4.out.drewN q) (by rw [List.length_drop, h8]; omega) (by omega) (by omega))
  have HU6 := Lib.hid (fun q => u16_RB0 V (o + 6) 2 2 (nm.drop 6) (w.drewN q) (nm6.out.drewN q) (by rw [List.length_drop, h8]; omega) (by omega) (by omega))
  clear cm hnl
  clear h8
  go_enter Tryd.func47, Tryd.ntmps47
  go_wp2_with fail
  go_region_held3 (fun w' => w'.cell? ⟨V, o + 8, none⟩ = some (.int .u32 x1) ∧ w'.cell? ⟨V, o + 9, none⟩ = some (.int .i16 x2) ∧ w'.cell? ⟨V, o + 10, none⟩ = some (.int .u16 x3)) (go_keep)
    (first | (go_at_call 53; refine (u32_RB0 V o 8 8 nm _ (by exact nm0.out) (by rw [H8.out]; omega) (by omega) (by omega)).mono ?_; rintro e w1 ⟨rfl, q1, rfl⟩) | (go_at_call 52; (with_reducible refine (HU4.out _).mono ?_); rintro e w2 ⟨rfl, q2, rfl⟩) | (go_at_call 52; (with_reducible refine (HU6.out _).mono ?_); rintro e w3 ⟨rfl, q3, rfl⟩))
  go_wp2
  go_ret
  exact ⟨⟨_, rfl, Nat.le_refl _, Lib.hid (heap_alloc_new (w.drewN _) _)⟩, (below_drewN (Below.refl _ w) _).alloc (Nat.le_refl _) _⟩

set_option maxRecDepth 100000 in
set_option maxHeartbeats 1000000 in
theorem zzAux_all (A : Option Addr) (l : List UInt8) (n c : Nat) (w : World) (h3 : 3 ≤ w.heap.size)
    (hN : Hid (n = l.length)) (hb : n ≤ 2147483647) (hZ : 18 ≤ n) (hnc : n ≤ c) (hA : Hid (RB w A l)) (hAl : ∀ a, A = some a → a.block < w.heap.size) :
    Calls Tryd.prog 35 #[.slice A n c] w fun e w' => e = .returned (.tuple #[.agg (auxCells (auxL (l.take 18))).toArray, .nilIface]) ∧ Below w.heap.size w w' := by
  have hg0 := Lib.hid (heap_alloc2_old w (.cells #[.int .u32 0, .int .u16 0, .int .u16 0, .int .u32 0, .int .u16 0, .int .u8 0, .int .u8 0, .int .u8 0, .int .u8 0] 78) (.cells #[.int .u8 0, .int .u8 0, .int .u8 0, .int .u8 0, .int .u8 0, .int .u8 0, .int .u8 0, .int .u8 0, .int .u32 0, .int .i16 0, .int .u16 0, .int .u8 0, .int .u8 0] 68))
  have hV0 := Lib.hid (heap_alloc2_new w (.cells #[.int .u32 0, .int .u16 0, .int .u16 0, .int .u32 0, .int .u16 0, .int .u8 0, .int .u8 0, .int .u8 0, .int .u8 0] 78) (.cells #[.int .u8 0, .int .u8 0, .int .u8 0, .int .u8 0, .int .u8 0, .int .u8 0, .int .u8 0, .int .u8 0, .int .u32 0, .int .i16 0, .int .u16 0, .int .u8 0, .int .u8 0] 68))
  have hb0 : Below w.heap.size w ((w.alloc (.cells #[.int .u32 0, .int .u16 0, .int .u16 0, .int .u32 0, .int .u16 0, .int .u8 0, .int .u8 0, .int .u8 0, .int .u8 0] 78)).alloc (.cells #[.int .u8 0, .int .u8 0, .int .u8 0, .int .u8 0, .int .u8 0, .int .u8 0, .int .u8 0, .int .u8 0, .int .u32 0, .int .i16 0, .int .u16 0, .int .u8 0, .int .u8 0] 68)) := ((Below.refl _ _).alloc (Nat.le_refl _) _).alloc (by simp) _
  have hs0 : ((w.alloc (.cells #[.int .u32 0, .int .u16 0, .int .u16 0, .int .u32 0, .int .u16 0, .int .u8 0, .int .u8 0, .int .u8 0, .int .u8 0] 78)).alloc (.cells #[.int .u8 0, .int .u8 0, .int .u8 0, .int .u8 0, .int .u8 0, .int .u8 0, .int .u8 0, .int .u8 0, .int .u32 0, .int .i16 0, .int .u16 0, .int .u8 0, .int .u8 0] 68)).heap.size = w.heap.size + 2 := by simp
  have hR := Lib.hid (Rdr.made (w := (w.alloc (.cells #[.int .u32 0, .int .u16 0, .int .u16 0, .int .u32 0, .int .u16 0, .int .u8 0, .int .u8 0, .int .u8 0, .int .u8 0] 78)).alloc (.cells #[.int .u8 0, .int .u8 0, .int .u8 0, .int .u8 0, .int .u8 0, .int .u8 0, .int .u8 0, .int .u8 0, .int .u32 0, .int .i16 0, .int .u16 0, .int .u8 0, .int .u8 0] 68)) hN.out hb hnc (hA.out.later hb0) (fun a ha => by have := hAl a ha; rw [hs0]; omega) (by rw [hs0]; omega))
  rw [hs0] at hR
  have hg := row_alloc hg0 (.cells #[.slice A n c, .int .i64 0, .int .i64 (-1)] 116)
  have hV := row_alloc hV0 (.cells #[.slice A n c, .int .i64 0, .int .i64 (-1)] 116)
  have hVD : Hid (¬ ∃ a, A = some a ∧ a.block = w.heap.size + 1) := Lib.hid (fun ⟨a, ha, e⟩ => by have := hAl a ha; omega)
  have hb1 := hb0.alloc (by rw [hs0]; omega) (.cells #[.slice A n c, .int .i64 0, .int .i64 (-1)] 116)
  have hs1 : (((w.alloc (.cells #[.int .u32 0, .int .u16 0, .int .u16 0, .int .u32 0, .int .u16 0, .int .u8 0, .int .u8 0, .int .u8 0, .int .u8 0] 78)).alloc (.cells #[.int .u8 0, .int .u8 0, .int .u8 0, .int .u8 0, .int .u8 0, .int .u8 0, .int .u8 0, .int .u8 0, .int .u32 0, .int .i16 0, .int .u16 0, .int .u8 0, .int .u8 0] 68)).alloc (.cells #[.slice A n c, .int .i64 0, .int .i64 (-1)] 116)).heap.size = w.heap.size + 3 := by simp
  have hinfo : (Tryd.prog.info? 78).map (·.size) = some 9 := by kernel_rfl
  replace hinfo := Lib.hid hinfo
  replace hs0 := Lib.hid hs0
  replace hs1 := Lib.hid hs1
  replace hb1 := Lib.hid hb1
  clear hg0 hV0 hb0
  go_enter Tryd.func35, Tryd.ntmps35
  go_wp2_with fail
  refine (newReader _ A n c rfl _).mono ?_
  rintro e w' ⟨rfl, rfl⟩
  go_wp2_with fail
  refine (readAux_all (w.heap.size + 1) (w.heap.size + 2) _ _ l 0 68 _ hR (Lib.hid (by have := hN.out; omega)) (by omega) hVD hV).mono ?_
  rintro e w3 ⟨rfl, -, V3, C3⟩
  rw [List.drop_zero, fAux_eq] at V3
  have G3 := Lib.hid (C3.row hg.out (by omega))
  have hb3 : Hid (Below w.heap.size w w3) := Lib.hid (hb1.out.trans (C3.below (by rw [hs1.out]; omega) (fun k hk e => by rcases e with e | e <;> omega)))
  clear C3 hb1 hg hV hR
  go_wp2_with fail
  refine (auxFormat5_any (w.heap.size + 1) 0 [] [] (auxL (l.take 18)) 68 w3 (Lib.hid rfl) (by simp [auxL]; have := hN.out; omega) (by simpa using V3)).mono ?_
  rintro e w4 ⟨⟨g, rfl, hg4, G4⟩, b4⟩
  have G5 := row_later b4 G3
  have hz3 := hb3.out.size
  have b5 := Lib.hid (hb3.out.trans (b4.mono hz3))
  have G6 := Lib.hid (setRow_heap w4 w.heap.size #[.int .u32 0, .int .u16 0, .int .u16 0, .int .u32 0, .int .u16 0, .int .u8 0, .int .u8 0, .int .u8 0, .int .u8 0] (auxCells (auxL (l.take 18))).toArray 78 (0, 0) G5.out)
  clear b4 G3 V3 hb3
  go_wp2_with (first | (refine wpList_load_row rfl 78 _ rfl g rfl 78 (auxCells (auxL (l.take 18))).toArray (0, 0) _ G4.out Tryd.underlying78 rfl hinfo.out ?_) | (refine wpList_store_row rfl 78 _ _ rfl w.heap.size 78 #[.int .u32 0, .int .u16 0, .int .u16 0, .int .u32 0, .int .u16 0, .int .u8 0, .int .u8 0, .int .u8 0, .int .u8 0] (auxCells (auxL (l.take 18))).toArray rfl rfl G5.out rfl hinfo.out (List.all_eq_true.1 rfl) ?_))
  exact bodyPost_ret (results_cell_tmp rfl _ _ w.heap.size 78 (auxCells (auxL (l.take 18))).toArray (0, 0) _ rfl G6.out Tryd.underlying78 rfl hinfo.out) rfl ⟨rfl, below_setRow b5.out (Nat.le_refl _) _⟩

set_option maxRecDepth 100000 in
set_option maxHeartbeats 1000000 in
theorem zzAux_short (A : Option Addr) (l : List UInt8) (n c : Nat) (w : World) (TE TU : TypeId) (vE vU : Value) (hErr : Hid (ErrsAt w TE TU vE vU)) (h3 : 3 ≤ w.heap.size)
    (hN : Hid (n = l.length)) (hb : n ≤ 2147483647) (hZ : n < 18) (hnc : n ≤ c) (hA : Hid (RB w A l)) (hAl : ∀ a, A = some a → a.block < w.heap.size) :
    Calls Tryd.prog 35 #[.slice A n c] w fun e w' => (∃ T v, e = .returned (.tuple #[.agg (auxCells zeroL).toArray, .iface T v])) ∧ Below w.heap.size w w' := by
  have hg0 := Lib.hid (heap_alloc2_old w (.cells #[.int .u32 0, .int .u16 0, .int .u16 0, .int .u32 0, .int .u16 0, .int .u8 0, .int .u8 0, .int .u8 0, .int .u8 0] 78) (.cells #[.int .u8 0, .int .u8 0, .int .u8 0, .int .u8 0, .int .u8 0, .int .u8 0, .int .u8 0, .int .u8 0, .int .u32 0, .int .i16 0, .int .u16 0, .int .u8 0, .int .u8 0] 68))
  have hV0 := Lib.hid (heap_alloc2_new w (.cells #[.int .u32 0, .int .u16 0, .int .u16 0, .int .u32 0, .int .u16 0, .int .u8 0, .int .u8 0, .int .u8 0, .int .u8 0] 78) (.cells #[.int .u8 0, .int .u8 0, .int .u8 0, .int .u8 0, .int .u8 0, .int .u8 0, .int .u8 0, .int .u8 0, .int .u32 0, .int .i16 0, .int .u16 0, .int .u8 0, .int .u8 0] 68))
  have hb0 : Below w.heap.size w ((w.alloc (.cells #[.int .u32 0, .int .u16 0, .int .u16 0, .int .u32 0, .int .u16 0, .int .u8 0, .int .u8 0, .int .u8 0, .int .u8 0] 78)).alloc (.cells #[.int .u8 0, .int .u8 0, .int .u8 0, .int .u8 0, .int .u8 0, .int .u8 0, .int .u8 0, .int .u8 0, .int .u32 0, .int .i16 0, .int .u16 0, .int .u8 0, .int .u8 0] 68)) := ((Below.refl _ _).alloc (Nat.le_refl _) _).alloc (by simp) _
  have hs0 : ((w.alloc (.cells #[.int .u32 0, .int .u16 0, .int .u16 0, .int .u32 0, .int .u16 0, .int .u8 0, .int .u8 0, .int .u8 0, .int .u8 0] 78)).alloc (.cells #[.int .u8 0, .int .u8 0, .int .u8 0, .int .u8 0, .int .u8 0, .int .u8 0, .int .u8 0, .int .u8 0, .int .u32 0, .int .i16 0, .int .u16 0, .int .u8 0, .int .u8 0] 68)).heap.size = w.heap.size + 2 := by simp
  have hR := Lib.hid (Rdr.made (w := (w.alloc (.cells #[.int .u32 0, .int .u16 0, .int .u16 0, .int .u32 0, .int .u16 0, .int .u8 0, .int .u8 0, .int .u8 0, .int .u8 0] 78)).alloc (.cells #[.int .u8 0, .int .u8 0, .int .u8 0, .int .u8 0, .int .u8 0, .int .u8 0, .int .u8 0, .int .u8 0, .int .u32 0, .int .i16 0, .int .u16 0, .int .u8 0, .int .u8 0] 68)) hN.out hb hnc (hA.out.later hb0) (fun a ha => by have := hAl a ha; rw [hs0]; omega) (by rw [hs0]; omega))
  rw [hs0] at hR
  have hg := row_alloc hg0 (.cells #[.slice A n c, .int .i64 0, .int .i64 (-1)] 116)
  have hV := row_alloc hV0 (.cells #[.slice A n c, .int .i64 0, .int .i64 (-1)] 116)
  have hVD : Hid (¬ ∃ a, A = some a ∧ a.block = w.heap.size + 1) := Lib.hid (fun ⟨a, ha, e⟩ => by have := hAl a ha; omega)
  have hb1 := hb0.alloc (by rw [hs0]; omega) (.cells #[.slice A n c, .int .i64 0, .int .i64 (-1)] 116)
  have hs1 : (((w.alloc (.cells #[.int .u32 0, .int .u16 0, .int .u16 0, .int .u32 0, .int .u16 0, .int .u8 0, .int .u8 0, .int .u8 0, .int .u8 0] 78)).alloc (.cells #[.int .u8 0, .int .u8 0, .int .u8 0, .int .u8 0, .int .u8 0, .int .u8 0, .int .u8 0, .int .u8 0, .int .u32 0, .int .i16 0, .int .u16 0, .int .u8 0, .int .u8 0] 68)).alloc (.cells #[.slice A n c, .int .i64 0, .int .i64 (-1)] 116)).heap.size = w.heap.size + 3 := by simp
  have hE2 := Lib.hid (hErr.out.chg (Chg.of_below (S := fun k => w.heap.size ≤ k) hb1 (fun k _ h => h)) (by omega) (by omega))
  have hinfo : (Tryd.prog.info? 78).map (·.size) = some 9 := by kernel_rfl
  replace hinfo := Lib.hid hinfo
  replace hs0 := Lib.hid hs0
  replace hs1 := Lib.hid hs1
  replace hb1 := Lib.hid hb1
  clear hg0 hV0 hb0
  go_enter Tryd.func35, Tryd.ntmps35
  go_wp2_with fail
  refine (newReader _ A n c rfl _).mono ?_
  rintro e w' ⟨rfl, rfl⟩
  go_wp2_with fail
  refine (readAux_short (w.heap.size + 1) (w.heap.size + 2) _ _ l 0 _ TE TU vE vU hE2 hR (Lib.hid (by have := hN.out; omega))).mono ?_
  rintro e w3 ⟨⟨TX, vX, rfl⟩, C3⟩
  have V3 : Hid (w3.heap[w.heap.size + 1]? = some (.cells #[.int .u8 0, .int .u8 0, .int .u8 0, .int .u8 0, .int .u8 0, .int .u8 0, .int .u8 0, .int .u8 0, .int .u32 0, .int .i16 0, .int .u16 0, .int .u8 0, .int .u8 0] 68 (0, 0))) := Lib.hid (C3.row hV.out (by omega))
  have G3 := Lib.hid (C3.row hg.out (by omega))
  have hb3 : Hid (Below w.heap.size w w3) := Lib.hid (hb1.out.trans (C3.below (by rw [hs1.out]; omega) (fun k hk e => by omega)))
  clear C3 hb1 hg hV hR
  go_wp2_with fail
  refine (auxFormat5_any (w.heap.size + 1) 0 [] [] zeroL 68 w3 (Lib.hid rfl) rfl (by exact V3)).mono ?_
  rintro e w4 ⟨⟨g, rfl, hg4, G4⟩, b4⟩
  have G5 := row_later b4 G3
  have hz3 := hb3.out.size
  have b5 := Lib.hid (hb3.out.trans (b4.mono hz3))
  have G6 := Lib.hid (setRow_heap w4 w.heap.size #[.int .u32 0, .int .u16 0, .int .u16 0, .int .u32 0, .int .u16 0, .int .u8 0, .int .u8 0, .int .u8 0, .int .u8 0] (auxCells zeroL).toArray 78 (0, 0) G5.out)
  clear b4 G3 V3 hb3
  go_wp2_with (first | (refine wpList_load_row rfl 78 _ rfl g rfl 78 (auxCells zeroL).toArray (0, 0) _ G4.out Tryd.underlying78 rfl hinfo.out ?_) | (refine wpList_store_row rfl 78 _ _ rfl w.heap.size 78 #[.int .u32 0, .int .u16 0, .int .u16 0, .int .u32 0, .int .u16 0, .int .u8 0, .int .u8 0, .int .u8 0, .int .u8 0] (auxCells zeroL).toArray rfl rfl G5.out rfl hinfo.out (List.all_eq_true.1 rfl) ?_))
  exact bodyPost_ret (results_cell_tmp rfl _ _ w.heap.size 78 (auxCells zeroL).toArray (0, 0) _ rfl G6.out Tryd.underlying78 rfl hinfo.out) rfl ⟨⟨_, _, rfl⟩, below_setRow b5.out (Nat.le_refl _) _⟩

/-- The numbers of an auxiliary record. -/
def nAux (s : List UInt8) : List Nat := [num false (s.take 4), num false ((s.drop 4).take 2), num false ((s.drop 6).take 2), num false ((s.drop 8).take 4), num false ((s.drop 12).take 2), num false ((s.drop 14).take 1)]
theorem nAux_eq (l : List UInt8) : nAux (l.take 18) = numsOf false [4, 2, 2, 4, 2, 1, -3] l := by
  simp [nAux, numsOf, List.drop_take, List.take_take]
theorem wrap_i16 (n : Int) : IntKind.i16.wrap n = (n + 32768) % 65536 - 32768 := by
  simp [IntKind.wrap, IntKind.bits, IntKind.signed]
  split <;> omega
theorem auxCells_eq (s : List UInt8) : auxCells (auxL s) = [.int .u32 ((num false (s.take 4) : Nat) : Int), .int .u16 ((num false ((s.drop 4).take 2) : Nat) : Int), .int .u16 ((num false ((s.drop 6).take 2) : Nat) : Int), .int .u32 ((num false ((s.drop 8).take 4) : Nat) : Int), .int .u16 ((num false ((s.drop 12).take 2) : Nat) : Int), .int .u8 ((num false ((s.drop 14).take 1) : Nat) : Int), .int .u8 0, .int .u8 0, .int .u8 0] := by
  have h1 := wrap_kind false (s.drop 12) 2 65536 (by decide)
  have h2 := wrap_kind false (s.drop 14) 1 256 (by decide)
  have e1 : IntKind.u16.wrap (IntKind.i16.wrap ((num false ((s.drop 12).take 2) : Nat) : Int)) = ((num false ((s.drop 12).take 2) : Nat) : Int) := by
    rw [IntKind.wrap_u16, wrap_i16]
    omega
  have e2 : IntKind.u8.wrap (IntKind.u16.wrap ((num false ((s.drop 14).take 1) : Nat) : Int)) = ((num false ((s.drop 14).take 1) : Nat) : Int) := by
    rw [IntKind.wrap_u8, IntKind.wrap_u16]
    omega
  simp only [auxCells, auxL, e1, e2]
  simp [List.drop_take, List.take_take]

set_option maxRecDepth 100000 in
set_option maxHeartbeats 1000000 in
theorem implAux_all (A : Option Addr) (l : List UInt8) (n c : Nat) (hN : Hid (n = l.length)) (hb : n ≤ 2147483647) (hZ : 18 ≤ n) (w : World) (hA : RB w A l) (h3 : 3 ≤ w.heap.size) :
    Calls Tryd.prog 19 #[.slice A n c] w fun e w' => (∃ v, e = .returned (.tuple #[.slice v 6 6, .bool true]) ∧ Hid (RC w' v 1 6 ((nAux (l.take 18)).map uv))) ∧ Below w.heap.size w w' := by
  obtain ⟨s, hS⟩ : ∃ s, l.take 18 = s := ⟨_, rfl⟩
  rw [hS]
  have hs : s.length = 18 := by rw [← hS]; have := hN.out; simp; omega
  have HS := Lib.hid hS
  clear hS
  have hinfo : (Tryd.prog.info? 78).map (·.size) = some 9 := by kernel_rfl
  replace hinfo := Lib.hid hinfo
  go_enter Tryd.func19, Tryd.ntmps19
  go_wp2_with fail
  refine (copied_any A l n c hN.out hb w hA).mono ?_
  rintro e w1 ⟨⟨v, rfl, hown⟩, hb1⟩
  obtain ⟨-, A1, k1, rfl, R1, hc1, hcm, hA1, hA2⟩ := RB.of_owns hown
  replace R1 := Lib.hid R1
  have hlt := fun (a : Addr) (ha : A1 = some a) => owned_lt hown (by rw [ha])
  have hsz := hb1.size
  clear hown hA1 hA2 hcm
  go_wp2_with fail
  refine (zzAux_all A1 l n k1 w1 (by omega) hN hb hZ hc1 R1 hlt).mono ?_
  rintro e w2 ⟨rfl, hb2⟩
  rw [HS.out]
  have hbw : Hid (Below w.heap.size w w2) := Lib.hid (hb1.trans (hb2.mono hb1.size))
  have g2 := Lib.hid (heap_alloc_new w2 (.cells #[.int .u32 0, .int .u16 0, .int .u16 0, .int .u32 0, .int .u16 0, .int .u8 0, .int .u8 0, .int .u8 0, .int .u8 0] 78))
  have hrow := (congrArg (fun x : World => x.heap[w2.heap.size]?) (World.setRow_alloc_new w2 #[.int .u32 0, .int .u16 0, .int .u16 0, .int .u32 0, .int .u16 0, .int .u8 0, .int .u8 0, .int .u8 0, .int .u8 0] (auxCells (auxL s)).toArray 78)).trans (heap_alloc_new w2 _)
  have b3 : Hid (Below w.heap.size w ((w2.alloc (.cells #[.int .u32 0, .int .u16 0, .int .u16 0, .int .u32 0, .int .u16 0, .int .u8 0, .int .u8 0, .int .u8 0, .int .u8 0] 78)).setRow w2.heap.size (auxCells (auxL s)).toArray)) := Lib.hid (below_setRow (hbw.out.alloc hbw.out.size _) hbw.out.size _)
  have c0 := World.cell?_of_row hrow 0 (.int .u32 ((num false (s.take 4) : Nat) : Int)) (by rw [auxCells_eq]; rfl)
  have c1 := World.cell?_of_row hrow 1 (.int .u16 ((num false ((s.drop 4).take 2) : Nat) : Int)) (by rw [auxCells_eq]; rfl)
  have c2 := World.cell?_of_row hrow 2 (.int .u16 ((num false ((s.drop 6).take 2) : Nat) : Int)) (by rw [auxCells_eq]; rfl)
  have c3 := World.cell?_of_row hrow 3 (.int .u32 ((num false ((s.drop 8).take 4) : Nat) : Int)) (by rw [auxCells_eq]; rfl)
  have c4 := World.cell?_of_row hrow 4 (.int .u16 ((num false ((s.drop 12).take 2) : Nat) : Int)) (by rw [auxCells_eq]; rfl)
  have c5 := World.cell?_of_row hrow 5 (.int .u8 ((num false ((s.drop 14).take 1) : Nat) : Int)) (by rw [auxCells_eq]; rfl)
  have Wr0 := wrap_num false s 4 (by omega)
  have Wr1 := wrap_num false (s.drop 4) 2 (by omega)
  have Wr2 := wrap_num false (s.drop 6) 2 (by omega)
  have Wr3 := wrap_num false (s.drop 8) 4 (by omega)
  have Wr4 := wrap_num false (s.drop 12) 2 (by omega)
  have Wr5 := wrap_num false (s.drop 14) 1 (by omega)
  clear hrow
  go_wp2_with (refine wpList_store_row rfl 78 _ _ rfl w2.heap.size 78 #[.int .u32 0, .int .u16 0, .int .u16 0, .int .u32 0, .int .u16 0, .int .u8 0, .int .u8 0, .int .u8 0, .int .u8 0] (auxCells (auxL s)).toArray rfl rfl g2.out rfl hinfo.out (List.all_eq_true.1 rfl) ?_)
  go_ret2
  exact ⟨⟨_, rfl, Lib.hid (rc_new (vs := (nAux s).map uv) (by simp) (by simp [nAux]))⟩, b3.out.alloc b3.out.size _⟩

set_option maxRecDepth 100000 in
set_option maxHeartbeats 1000000 in
theorem implAux_short (A : Option Addr) (l : List UInt8) (n c : Nat) (hN : Hid (n = l.length)) (hb : n ≤ 2147483647) (hZ : n < 18) (w : World) (hA : RB w A l) (TE TU : TypeId) (vE vU : Value) (hErr : Hid (ErrsAt w TE TU vE vU)) (h3 : 3 ≤ w.heap.size) :
    Calls Tryd.prog 19 #[.slice A n c] w fun e w' => e = .returned (.tuple #[.slice none 0 0, .bool false]) ∧ Below w.heap.size w w' := by
  have hinfo : (Tryd.prog.info? 78).map (·.size) = some 9 := by kernel_rfl
  replace hinfo := Lib.hid hinfo
  go_enter Tryd.func19, Tryd.ntmps19
  go_wp2_with fail
  refine (copied_any A l n c hN.out hb w hA).mono ?_
  rintro e w1 ⟨⟨v, rfl, hown⟩, hb1⟩
  obtain ⟨-, A1, k1, rfl, R1, hc1, hcm, hA1, hA2⟩ := RB.of_owns hown
  replace R1 := Lib.hid R1
  have hlt := fun (a : Addr) (ha : A1 = some a) => owned_lt hown (by rw [ha])
  have hE1 := Lib.hid (hErr.out.chg (Chg.of_below (S := fun k => w.heap.size ≤ k) hb1 (fun k _ h => h)) (by omega) (by omega))
  have hsz := hb1.size
  clear hown hA1 hA2 hcm
  go_wp2_with fail
  refine (zzAux_short A1 l n k1 w1 TE TU vE vU hE1 (by omega) hN hb hZ hc1 R1 hlt).mono ?_
  rintro e w2 ⟨⟨TX, vX, rfl⟩, hb2⟩
  have hbw : Hid (Below w.heap.size w w2) := Lib.hid (hb1.trans (hb2.mono hb1.size))
  have g2 := Lib.hid (heap_alloc_new w2 (.cells #[.int .u32 0, .int .u16 0, .int .u16 0, .int .u32 0, .int .u16 0, .int .u8 0, .int .u8 0, .int .u8 0, .int .u8 0] 78))
  have hrow := (congrArg (fun x : World => x.heap[w2.heap.size]?) (World.setRow_alloc_new w2 #[.int .u32 0, .int .u16 0, .int .u16 0, .int .u32 0, .int .u16 0, .int .u8 0, .int .u8 0, .int .u8 0, .int .u8 0] (auxCells zeroL).toArray 78)).trans (heap_alloc_new w2 _)
  have b3 : Hid (Below w.heap.size w ((w2.alloc (.cells #[.int .u32 0, .int .u16 0, .int .u16 0, .int .u32 0, .int .u16 0, .int .u8 0, .int .u8 0, .int .u8 0, .int .u8 0] 78)).setRow w2.heap.size (auxCells zeroL).toArray)) := Lib.hid (below_setRow (hbw.out.alloc hbw.out.size _) hbw.out.size _)
  go_wp2_with (refine wpList_store_row rfl 78 _ _ rfl w2.heap.size 78 #[.int .u32 0, .int .u16 0, .int .u16 0, .int .u32 0, .int .u16 0, .int .u8 0, .int .u8 0, .int .u8 0, .int .u8 0] (auxCells zeroL).toArray rfl rfl g2.out rfl hinfo.out (List.all_eq_true.1 rfl) ?_)
  go_ret2
  exact ⟨rfl, b3.out⟩

set_option maxHeartbeats 400000 in
theorem peAux_any (w : World) :
    Calls Tryd.prog 20 #[] w fun e w' => (∃ v, e = .returned (.slice v 7 7) ∧ RC w' v 1 7 (([4, 2, 2, 4, 2, 1, -3] : List Int).map iv)) ∧ Below w.heap.size w w' := by
  go_enter Tryd.func20, Tryd.ntmps20
  go_wp2
  go_ret
  exact ⟨⟨_, rfl, rc_new rfl rfl⟩, (Below.refl _ _).alloc (Nat.le_refl _) _⟩

set_option maxRecDepth 100000 in
set_option maxHeartbeats 1000000 in
theorem lawAux (a1 : Option Addr) (len1 cap1 : Nat) (l : List UInt8) (w : World) (hN : Hid (len1 = l.length)) (hr : RB w a1 l) (hc : len1 ≤ cap1) (hb : len1 ≤ 1048576) (TE TU : TypeId) (vE vU : Value) (hE : Hid (ErrsAt w TE TU vE vU)) (h3 : 3 ≤ w.heap.size) :
    Calls Tryd.prog 6 #[.slice a1 len1 cap1] w fun e w' => e = .returned (.bool true) ∧ Below w.heap.size w w' := by
  have hff := fieldsOf_all false [4, 2, 2, 4, 2, 1, -3] l
  have hwid : widthOf [4, 2, 2, 4, 2, 1, -3] = 18 := rfl
  rw [hwid] at hff
  clear hwid
  by_cases hZ : 18 ≤ len1
  · rw [if_neg (by have := hN.out; omega), ← nAux_eq] at hff
    replace hff := Lib.hid hff
    go_enter Tryd.func6, Tryd.ntmps6
    go_wp2_with fail
    refine (implAux_all a1 l len1 cap1 hN (by omega) hZ w hr h3).mono ?_
    rintro e w1 ⟨⟨v, rfl, R1⟩, b1⟩
    go_wp2_with fail
    refine (peAux_any w1).mono ?_
    rintro e w2 ⟨⟨B, rfl, R2⟩, b2⟩
    have R1' := Lib.hid (R1.out.later b2)
    have b12 := Lib.hid (b1.trans (b2.mono b1.size))
    have A2 := Lib.hid (hr.later b12.out)
    clear R1 b1 b2
    go_wp2_with fail
    refine (fields_any false a1 B l [4, 2, 2, 4, 2, 1, -3] len1 cap1 7 7 hN hc (by omega) (Lib.hid (by simp)) (by omega) (Lib.hid (by decide)) w2 A2 (Lib.hid R2)).mono ?_
    rintro e w3 ⟨h | ⟨r, v3, e3, rfl, own3⟩, b3⟩
    · rw [hff.out] at h; cases h.1
    obtain rfl := Option.some.inj (hff.out.symm.trans e3)
    obtain ⟨C, d3, rfl, R3, -, -⟩ := RC.of_owns own3
    have R1'' := R1'.out.later b3
    have b13 := Lib.hid (b12.out.trans (b3.mono b12.out.size))
    have eK : (nAux (l.take 18)).length = 6 := rfl
    rw [eK] at R3 ⊢
    clear own3 e3 b3 R1' b12 A2 R2 hff
    replace R1'' := Lib.hid R1''
    replace R3 := Lib.hid R3
    go_wp2_with fail
    refine (same_yes v C 6 6 d3 (nAux (l.take 18)) w3 (by omega) R1''.out R3.out).mono ?_
    rintro e w4 ⟨rfl, q, rfl⟩
    go_wp2
    go_ret
    exact ⟨rfl, below_drewN b13.out q⟩
  · rw [if_pos (by have := hN.out; omega)] at hff
    replace hff := Lib.hid hff
    go_enter Tryd.func6, Tryd.ntmps6
    go_wp2_with fail
    refine (implAux_short a1 l len1 cap1 hN (by omega) (by omega) w hr TE TU vE vU hE h3).mono ?_
    rintro e w1 ⟨rfl, b1⟩
    go_wp2_with fail
    refine (peAux_any w1).mono ?_
    rintro e w2 ⟨⟨B, rfl, R2⟩, b2⟩
    have b12 := Lib.hid (b1.trans (b2.mono b1.size))
    have A2 := Lib.hid (hr.later b12.out)
    clear b1 b2
    go_wp2_with fail
    refine (fields_any false a1 B l [4, 2, 2, 4, 2, 1, -3] len1 cap1 7 7 hN hc (by omega) (Lib.hid (by simp)) (by omega) (Lib.hid (by decide)) w2 A2 (Lib.hid R2)).mono ?_
    rintro e w3 ⟨⟨-, rfl⟩ | ⟨r, v3, e3, -, -⟩, b3⟩
    · have b13 := Lib.hid (b12.out.trans (b3.mono b12.out.size))
      clear b3 b12 A2 R2 hff
      go_wp2_with fail
      refine (same_yes none none 0 0 0 [] w3 (by omega) (rc_none _) (rc_none _)).mono ?_
      rintro e w4 ⟨rfl, q, rfl⟩
      go_wp2
      go_ret
      exact ⟨rfl, below_drewN b13.out q⟩
    · rw [hff.out] at e3; cases e3

theorem law_FnPeAux (a0 : Option Addr) (len0 cap0 : Nat) (z0 : List Int) (w : World) (w0 : IsRow .u8 w a0 len0 cap0 z0) (TE TU : TypeId) (vE vU : Value) (hErr : ErrsAt w TE TU vE vU) (h3 : 3 ≤ w.heap.size) :
    Calls Tryd.prog 6 #[.slice a0 len0 cap0] w fun e w' => e = .returned (.bool true) ∧ Below w.heap.size w w' := by
  obtain ⟨l, hl, hr, hc, hm⟩ := w0.bytes
  have hN := Lib.hid hl
  have hE := Lib.hid hErr
  clear hl w0 hm hErr
  by_cases hb : len0 ≤ 1048576
  · exact lawAux a0 len0 cap0 l w hN hr hc hb TE TU vE vU hE h3
  · have hb1 : Hid (1048576 < len0) := Lib.hid (by omega)
    by_cases hb2 : len0 ≤ 2147483647
    · go_enter Tryd.func6, Tryd.ntmps6
      go_wp2
      go_ret
      exact ⟨rfl, Below.refl _ _⟩
    · go_enter Tryd.func6, Tryd.ntmps6
      go_wp2
      go_ret
      exact ⟨rfl, Below.refl _ _⟩
end Go.Proofs.YthnlimhpnonnmaaDoorRRR
