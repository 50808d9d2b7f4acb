/-
  A record of a table of symbols, as the package has it and as plain data: the contracts of coffOf, PeCoff, CoffOf, coffIs; the law FnPeCoff.
-/
import Derived.Test.YthnlimhpnonnmaaDoorRRRCOFFSymbol
import Derived.Test.YthnlimhpnonnmaaDoorRRRRecs
import Derived.Test.YthnlimhpnonnmaaDoorRRRGen
namespace Go.Proofs.YthnlimhpnonnmaaDoorRRR
set_option linter.unusedVariables false
set_option linter.unusedSimpArgs false
open Go Go.RowKit
attribute [local go_sem ↓] Go.wp_at_zero Go.wp_at_succ

/-- A record. -/
structure CoffL where
  name : List UInt8
  value : Int
  sect : Int
  typ : Int
  cls : Int
  aux : Int

/-- Its cells as a COFFSymbol; its cells behind the name. -/
def symTail (c : CoffL) : List Value := [.int .u32 c.value, .int .i16 c.sect, .int .u16 c.typ, .int .u8 c.cls, .int .u8 c.aux]
def symCells (c : CoffL) : List Value := c.name.map bv ++ symTail c
/-- Its cells as a Coff. -/
def IsCoff (w : World) (vs : List Value) (c : CoffL) : Prop := ∃ A k, vs = .slice A 8 k :: symTail c ∧ c.name.length = 8 ∧ RT w 5 A 1 8 (c.name.map bv)
theorem IsCoff.later {w w' : World} {vs : List Value} {c : CoffL} (h : IsCoff w vs c) (hb : Below w.heap.size w w') : IsCoff w' vs c := by
  obtain ⟨A, k, e, hl, hr⟩ := h
  exact ⟨A, k, e, hl, hr.later hb⟩

/-- A record out of its bytes. -/
def coffL (s : List UInt8) : CoffL := ⟨s.take 8, (num false ((s.drop 8).take 4) : Nat), IntKind.i16.wrap (num false ((s.drop 12).take 2) : Nat), (num false ((s.drop 14).take 2) : Nat), (num false ((s.drop 16).take 1) : Nat), (num false ((s.drop 17).take 1) : Nat)⟩
theorem fCOFF_eq (s : List UInt8) : fCOFFSymbol false s = symCells (coffL s) := rfl

theorem chg6 (v0 v1 v2 v3 v4 v5 : Value) (b : Nat) (w : World) : Chg (· = b) w ((((((w.setCell ⟨b, 0, none⟩ v0).setCell ⟨b, 1, none⟩ v1).setCell ⟨b, 2, none⟩ v2).setCell ⟨b, 3, none⟩ v3).setCell ⟨b, 4, none⟩ v4).setCell ⟨b, 5, none⟩ v5) :=
  ((((((Chg.refl (· = b) w).setCell ⟨b, 0, none⟩ v0 (.inl rfl)).setCell ⟨b, 1, none⟩ v1 (.inl rfl)).setCell ⟨b, 2, none⟩ v2 (.inl rfl)).setCell ⟨b, 3, none⟩ v3 (.inl rfl)).setCell ⟨b, 4, none⟩ v4 (.inl rfl)).setCell ⟨b, 5, none⟩ v5 (.inl rfl)

set_option maxRecDepth 100000 in
set_option maxHeartbeats 2000000 in
theorem coffOf_any (c : CoffL) (h8 : c.name.length = 8) (w : World) :
    Calls Tryd.prog 32 #[.agg (symCells c).toArray] w fun e w' => (∃ vs : List Value, e = .returned (.agg vs.toArray) ∧ IsCoff w' vs c) ∧ Below w.heap.size w w' := by
  obtain ⟨nm, x1, x2, x3, x4, x5⟩ := c
  obtain ⟨y0, y1, y2, y3, y4, y5, y6, y7, rfl⟩ := name8 h8
  have e : symCells ⟨[y0, y1, y2, y3, y4, y5, y6, y7], x1, x2, x3, x4, x5⟩ = [bv y0, bv y1, bv y2, bv y3, bv y4, bv y5, bv y6, bv y7, .int .u32 x1, .int .i16 x2, .int .u16 x3, .int .u8 x4, .int .u8 x5] := rfl
  rw [e]
  clear e
  have g1 := Lib.hid (heap_alloc2_old w (.cells #[bv y0, bv y1, bv y2, bv y3, bv y4, bv y5, bv y6, bv y7, .int .u32 x1, .int .i16 x2, .int .u16 x3, .int .u8 x4, .int .u8 x5] 68) (.cells #[.slice none 0 0, .int .u32 0, .int .i16 0, .int .u16 0, .int .u8 0, .int .u8 0] 35))
  have g2 := Lib.hid (heap_alloc2_new w (.cells #[bv y0, bv y1, bv y2, bv y3, bv y4, bv y5, bv y6, bv y7, .int .u32 x1, .int .i16 x2, .int .u16 x3, .int .u8 x4, .int .u8 x5] 68) (.cells #[.slice none 0 0, .int .u32 0, .int .i16 0, .int .u16 0, .int .u8 0, .int .u8 0] 35))
  have nm := Lib.hid (RB.of_mid (pre := []) (post := [.int .u32 x1, .int .i16 x2, .int .u16 x3, .int .u8 x4, .int .u8 x5]) (l := [y0, y1, y2, y3, y4, y5, y6, y7]) g1.out rfl 0 rfl)
  go_enter Tryd.func32, Tryd.ntmps32
  go_wp2_with fail
  go_region_held3 (fun w' => w'.cell? ⟨w.heap.size, 8, none⟩ = some (.int .u32 x1) ∧ w'.cell? ⟨w.heap.size, 9, none⟩ = some (.int .i16 x2) ∧ w'.cell? ⟨w.heap.size, 10, none⟩ = some (.int .u16 x3) ∧ w'.cell? ⟨w.heap.size, 11, none⟩ = some (.int .u8 x4) ∧ w'.cell? ⟨w.heap.size, 12, none⟩ = some (.int .u8 x5))
    (first | go_keep | (refine ⟨?_, ?_, ?_, ?_, ?_⟩ <;> refine (hbA.cell ?_).trans ?_ <;> first | assumption | (simp; omega) | go_keep))
    (first | (go_at_call 29; refine (copied_any (some ⟨w.heap.size, 0, none⟩) [y0, y1, y2, y3, y4, y5, y6, y7] 8 8 rfl (by omega) _ (by exact nm.out)).mono ?_; rintro e wA ⟨⟨vA, rfl, hownA⟩, hbA⟩; obtain ⟨NA, kA, rfl, RA, -, -⟩ := RT.of_owns hownA; replace RA := Lib.hid RA; clear hownA; (try replace hbA := Below.undrew hbA); have rr := (hbA.block (w.heap.size + 1) (by simp)).trans g2.out; have r0 : wA.cell? ⟨w.heap.size + 1, 0, none⟩ = some (.slice none 0 0) := cell_of_row _ _ 0 _ _ _ rr; have f0 : wA.frozen? ⟨w.heap.size + 1, 0, none⟩ = false := frozen_of_row _ _ 0 _ _ rr; have r1 : wA.cell? ⟨w.heap.size + 1, 1, none⟩ = some (.int .u32 0) := cell_of_row _ _ 1 _ _ _ rr; have f1 : wA.frozen? ⟨w.heap.size + 1, 1, none⟩ = false := frozen_of_row _ _ 1 _ _ rr; have r2 : wA.cell? ⟨w.heap.size + 1, 2, none⟩ = some (.int .i16 0) := cell_of_row _ _ 2 _ _ _ rr; have f2 : wA.frozen? ⟨w.heap.size + 1, 2, none⟩ = false := frozen_of_row _ _ 2 _ _ rr; have r3 : wA.cell? ⟨w.heap.size + 1, 3, none⟩ = some (.int .u16 0) := cell_of_row _ _ 3 _ _ _ rr; have f3 : wA.frozen? ⟨w.heap.size + 1, 3, none⟩ = false := frozen_of_row _ _ 3 _ _ rr; have r4 : wA.cell? ⟨w.heap.size + 1, 4, none⟩ = some (.int .u8 0) := cell_of_row _ _ 4 _ _ _ rr; have f4 : wA.frozen? ⟨w.heap.size + 1, 4, none⟩ = false := frozen_of_row _ _ 4 _ _ rr; have r5 : wA.cell? ⟨w.heap.size + 1, 5, none⟩ = some (.int .u8 0) := cell_of_row _ _ 5 _ _ _ rr; have f5 : wA.frozen? ⟨w.heap.size + 1, 5, none⟩ = false := frozen_of_row _ _ 5 _ _ rr; replace rr := Lib.hid rr))
  have hz := hbA.size
  try simp at hz
  have hc := chg6 (.slice NA 8 kA) (.int .u32 x1) (.int .i16 x2) (.int .u16 x3) (.int .u8 x4) (.int .u8 x5) (w.heap.size + 1) wA
  have hk := Keeps.of_chg (e := 35) hc (fun k _ hk => by subst hk; exact ⟨_, _, rr.out⟩)
  go_wp2_with fail
  refine bodyPost_ret (v := .agg #[.slice NA 8 kA, .int .u32 x1, .int .i16 x2, .int .u16 x3, .int .u8 x4, .int .u8 x5]) (by simp [results, Tryd.results32, go_sem, r0, r1, r2, r3, r4, r5]) rfl ⟨⟨_, rfl, NA, kA, rfl, rfl, RA.out.keeps hk (by decide)⟩,
    ((((Below.refl _ w).alloc (Nat.le_refl _) _).alloc (by simp) _).trans (hbA.mono (by simp; omega))).trans (hc.below (by omega) (fun k hk e => by omega))⟩

set_option maxRecDepth 100000 in
set_option maxHeartbeats 1000000 in
theorem implCoff_all (A : Option Addr) (l : List UInt8) (n c : Nat) (hN : Hid (n = l.length)) (hb : n ≤ 2147483647) (hZ : 18 ≤ n) (w : World) (hA : RB w A l) (h3 : 3 ≤ w.heap.size) :
    Calls Tryd.prog 14 #[.slice A n c] w fun e w' => (∃ vs : List Value, e = .returned (.tuple #[.agg vs.toArray, .bool true]) ∧ IsCoff w' vs (coffL (l.take 18))) ∧ Below w.heap.size w w' := by
  have hsz : (l.take 18).length = 18 := by have := hN.out; simp; omega
  have hsize := Lib.hid (sizeCOFFSymbol false (l.take 18) hsz)
  have hnm := Lib.hid (show (coffL (l.take 18)).name.length = 8 by simp [coffL]; have := hN.out; omega)
  clear hsz
  have hinfo : (Tryd.prog.info? 68).map (·.size) = some 13 := by kernel_rfl
  have hinfo2 : (Tryd.prog.info? 35).map (·.size) = some 6 := by kernel_rfl
  replace hinfo := Lib.hid hinfo
  replace hinfo2 := Lib.hid hinfo2
  have g0 := Lib.hid (heap_alloc_new w (.cells #[.slice none 0 0, .int .u32 0, .int .i16 0, .int .u16 0, .int .u8 0, .int .u8 0] 35))
  have b0 : Below w.heap.size w (w.alloc (.cells #[.slice none 0 0, .int .u32 0, .int .i16 0, .int .u16 0, .int .u8 0, .int .u8 0] 35)) := (Below.refl _ _).alloc (Nat.le_refl _) _
  have A0 := Lib.hid (hA.later b0)
  replace b0 := Lib.hid b0
  go_enter Tryd.func14, Tryd.ntmps14
  go_wp2_with fail
  refine (copied_any A l n c hN.out hb _ A0.out).mono ?_
  rintro e w1 ⟨⟨v, rfl, hown⟩, hb1⟩
  obtain ⟨-, A1, k1, rfl, R1, hc1, hcm, hA1, hA2⟩ := RB.of_owns hown
  replace R1 := Lib.hid R1
  have hsz1 := hb1.size
  simp at hsz1
  replace g0 := Lib.hid ((hb1.block w.heap.size (by simp)).trans g0.out)
  replace b0 := Lib.hid (b0.out.trans (hb1.mono (by simp)))
  clear hown hA1 hA2 hcm hb1 A0
  go_wp2_with fail
  refine (zzCOFFSymbol_all A1 l n k1 w1 hN hb hZ hc1 R1 (R1.out.ltA (by have := hN.out; omega)) (by omega)).mono ?_
  rintro e w2 ⟨rfl, hb2⟩
  have hsz2 := hb2.size
  replace g0 := Lib.hid ((hb2.block w.heap.size (by omega)).trans g0.out)
  replace b0 := Lib.hid (b0.out.trans (hb2.mono (by omega)))
  have g2 := Lib.hid (heap_alloc_new w2 (.cells #[.int .u8 0, .int .u8 0, .int .u8 0, .int .u8 0, .int .u8 0, .int .u8 0, .int .u8 0, .int .u8 0, .int .u32 0, .int .i16 0, .int .u16 0, .int .u8 0, .int .u8 0] 68))
  have hrow := Lib.hid ((congrArg (fun x : World => x.heap[w2.heap.size]?) (World.setRow_alloc_new w2 #[.int .u8 0, .int .u8 0, .int .u8 0, .int .u8 0, .int .u8 0, .int .u8 0, .int .u8 0, .int .u8 0, .int .u32 0, .int .i16 0, .int .u16 0, .int .u8 0, .int .u8 0] (fCOFFSymbol false (l.take 18)).toArray 68)).trans (heap_alloc_new w2 _))
  have g3 : Hid (((w2.alloc (.cells #[.int .u8 0, .int .u8 0, .int .u8 0, .int .u8 0, .int .u8 0, .int .u8 0, .int .u8 0, .int .u8 0, .int .u32 0, .int .i16 0, .int .u16 0, .int .u8 0, .int .u8 0] 68)).setRow w2.heap.size (fCOFFSymbol false (l.take 18)).toArray).heap[w.heap.size]? = some (.cells #[.slice none 0 0, .int .u32 0, .int .i16 0, .int .u16 0, .int .u8 0, .int .u8 0] 35 (0, 0))) :=
    Lib.hid ((setRow_other _ w2.heap.size w.heap.size _ (by omega)).trans ((Below.heap_alloc w2 _ w.heap.size (by omega)).trans g0.out))
  have b3 : Hid (Below w.heap.size w ((w2.alloc (.cells #[.int .u8 0, .int .u8 0, .int .u8 0, .int .u8 0, .int .u8 0, .int .u8 0, .int .u8 0, .int .u8 0, .int .u32 0, .int .i16 0, .int .u16 0, .int .u8 0, .int .u8 0] 68)).setRow w2.heap.size (fCOFFSymbol false (l.take 18)).toArray)) := Lib.hid (below_setRow (b0.out.alloc (by omega) _) (by omega) _)
  have hl3 : w.heap.size < ((w2.alloc (.cells #[.int .u8 0, .int .u8 0, .int .u8 0, .int .u8 0, .int .u8 0, .int .u8 0, .int .u8 0, .int .u8 0, .int .u32 0, .int .i16 0, .int .u16 0, .int .u8 0, .int .u8 0] 68)).setRow w2.heap.size (fCOFFSymbol false (l.take 18)).toArray).heap.size := by simp; omega
  clear hb2
  go_wp2_with (first | (refine wpList_store_row rfl 68 _ _ rfl w2.heap.size 68 #[.int .u8 0, .int .u8 0, .int .u8 0, .int .u8 0, .int .u8 0, .int .u8 0, .int .u8 0, .int .u8 0, .int .u32 0, .int .i16 0, .int .u16 0, .int .u8 0, .int .u8 0] (fCOFFSymbol false (l.take 18)).toArray rfl rfl g2.out (by rw [hsize.out]; rfl) (by rw [hsize.out]; exact hinfo.out) (oneCOFFSymbol false _) ?_) | (refine wpList_load_row rfl 68 _ rfl w2.heap.size rfl 68 (fCOFFSymbol false (l.take 18)).toArray (0, 0) _ hrow.out Tryd.underlying68 rfl (by rw [hsize.out]; exact hinfo.out) ?_))
  rw [fCOFF_eq] at *
  generalize (w2.alloc (.cells #[.int .u8 0, .int .u8 0, .int .u8 0, .int .u8 0, .int .u8 0, .int .u8 0, .int .u8 0, .int .u8 0, .int .u32 0, .int .i16 0, .int .u16 0, .int .u8 0, .int .u8 0] 68)).setRow w2.heap.size (symCells (coffL (l.take 18))).toArray = W3 at *
  clear g2 hrow
  refine (coffOf_any (coffL (l.take 18)) hnm.out W3).mono ?_
  rintro e w4 ⟨⟨vs, rfl, hvs⟩, hb4⟩
  have g4 := Lib.hid ((hb4.block w.heap.size hl3).trans g3.out)
  have hz4 := hb4.size
  obtain ⟨N, k, rfl, h8, RN⟩ := hvs
  replace h8 := Lib.hid h8
  replace RN := Lib.hid RN
  have b4 := Lib.hid (b3.out.trans (hb4.mono (by omega)))
  have g5 := Lib.hid ((congrArg (·.heap[w.heap.size]?) (rfl : w4.setRow w.heap.size (Value.slice N 8 k :: symTail (coffL (l.take 18))).toArray = _)).trans (setRow_heap w4 w.heap.size _ _ 35 _ g4.out))
  clear g3 b3 hb4
  go_wp2_with (refine wpList_store_row rfl 35 _ _ rfl w.heap.size 35 #[.slice none 0 0, .int .u32 0, .int .i16 0, .int .u16 0, .int .u8 0, .int .u8 0] (Value.slice N 8 k :: symTail (coffL (l.take 18))).toArray rfl rfl g4.out rfl hinfo2.out (List.all_eq_true.1 rfl) ?_)
  have hc5 : Chg (· = w.heap.size) w4 (w4.setRow w.heap.size (Value.slice N 8 k :: symTail (coffL (l.take 18))).toArray) := ⟨rfl, rfl, rfl, by simp, fun k _ hk => setRow_other w4 w.heap.size k _ hk⟩
  exact bodyPost_ret (results_cell_tmp rfl _ _ w.heap.size 35 (Value.slice N 8 k :: symTail (coffL (l.take 18))).toArray (0, 0) _ rfl g5.out Tryd.underlying35 rfl hinfo2.out) rfl
    ⟨⟨_, rfl, N, k, rfl, h8.out, RN.out.keeps (Keeps.of_chg (e := 35) hc5 (fun k _ hk => by subst hk; exact ⟨_, _, g4.out⟩)) (by decide)⟩, b4.out.trans (hc5.below (by omega) (fun k hk e => by omega))⟩

set_option maxRecDepth 100000 in
set_option maxHeartbeats 1000000 in
theorem implCoff_short (A : Option Addr) (l : List UInt8) (n c : Nat) (hN : Hid (n = l.length)) (hb : n ≤ 2147483647) (hZ : n < 18) (w : World) (hA : RB w A l) (TE TU : TypeId) (vE vU : Value) (hErr : Hid (ErrsAt w TE TU vE vU)) (h3 : 3 ≤ w.heap.size) :
    Calls Tryd.prog 14 #[.slice A n c] w fun e w' => e = .returned (.tuple #[.agg #[.slice none 0 0, .int .u32 0, .int .i16 0, .int .u16 0, .int .u8 0, .int .u8 0], .bool false]) ∧ Below w.heap.size w w' := by
  have hinfo2 : (Tryd.prog.info? 35).map (·.size) = some 6 := by kernel_rfl
  replace hinfo2 := Lib.hid hinfo2
  have g0 := Lib.hid (heap_alloc_new w (.cells #[.slice none 0 0, .int .u32 0, .int .i16 0, .int .u16 0, .int .u8 0, .int .u8 0] 35))
  have b0 : Below w.heap.size w (w.alloc (.cells #[.slice none 0 0, .int .u32 0, .int .i16 0, .int .u16 0, .int .u8 0, .int .u8 0] 35)) := (Below.refl _ _).alloc (Nat.le_refl _) _
  have A0 := Lib.hid (hA.later b0)
  replace b0 := Lib.hid b0
  go_enter Tryd.func14, Tryd.ntmps14
  go_wp2_with fail
  refine (copied_any A l n c hN.out hb _ A0.out).mono ?_
  rintro e w1 ⟨⟨v, rfl, hown⟩, hb1⟩
  obtain ⟨-, A1, k1, rfl, R1, hc1, hcm, hA1, hA2⟩ := RB.of_owns hown
  replace R1 := Lib.hid R1
  have hlt := fun (a : Addr) (ha : A1 = some a) => owned_lt hown (by rw [ha])
  have hsz1 := hb1.size
  simp at hsz1
  replace g0 := Lib.hid ((hb1.block w.heap.size (by simp)).trans g0.out)
  replace b0 := Lib.hid (b0.out.trans (hb1.mono (by simp)))
  have hE1 := Lib.hid (hErr.out.chg (Chg.of_below (S := fun k => w.heap.size ≤ k) b0.out (fun k _ h => h)) (by omega) (by omega))
  clear hown hA1 hA2 hcm hb1 A0
  go_wp2_with fail
  refine (zzCOFFSymbol_short A1 l n k1 w1 TE TU vE vU hE1 (by omega) hN hb hZ hc1 R1 hlt).mono ?_
  rintro e w2 ⟨⟨TX, vX, rfl⟩, hb2⟩
  have hsz2 := hb2.size
  replace g0 := Lib.hid ((hb2.block w.heap.size (by omega)).trans g0.out)
  replace b0 := Lib.hid (b0.out.trans (hb2.mono (by omega)))
  have g2 := Lib.hid (heap_alloc_new w2 (.cells #[.int .u8 0, .int .u8 0, .int .u8 0, .int .u8 0, .int .u8 0, .int .u8 0, .int .u8 0, .int .u8 0, .int .u32 0, .int .i16 0, .int .u16 0, .int .u8 0, .int .u8 0] 68))
  have g3 := Lib.hid ((Below.heap_alloc w2 (.cells #[.int .u8 0, .int .u8 0, .int .u8 0, .int .u8 0, .int .u8 0, .int .u8 0, .int .u8 0, .int .u8 0, .int .u32 0, .int .i16 0, .int .u16 0, .int .u8 0, .int .u8 0] 68) w.heap.size (by omega)).trans g0.out)
  have b3 := Lib.hid (b0.out.alloc (by omega) (.cells #[.int .u8 0, .int .u8 0, .int .u8 0, .int .u8 0, .int .u8 0, .int .u8 0, .int .u8 0, .int .u8 0, .int .u32 0, .int .i16 0, .int .u16 0, .int .u8 0, .int .u8 0] 68))
  clear hb2
  go_wp2_with (first | (refine wpList_store_self rfl 68 _ _ rfl w2.heap.size 68 #[.int .u8 0, .int .u8 0, .int .u8 0, .int .u8 0, .int .u8 0, .int .u8 0, .int .u8 0, .int .u8 0, .int .u32 0, .int .i16 0, .int .u16 0, .int .u8 0, .int .u8 0] rfl rfl g2.out (by kernel_rfl) (List.all_eq_true.1 rfl) ?_) | (refine wpList_store_self rfl 35 _ _ rfl w.heap.size 35 #[.slice none 0 0, .int .u32 0, .int .i16 0, .int .u16 0, .int .u8 0, .int .u8 0] rfl rfl g3.out hinfo2.out (List.all_eq_true.1 rfl) ?_))
  exact bodyPost_ret (results_cell_tmp rfl _ _ w.heap.size 35 #[.slice none 0 0, .int .u32 0, .int .i16 0, .int .u16 0, .int .u8 0, .int .u8 0] (0, 0) _ rfl g3.out Tryd.underlying35 rfl hinfo2.out) rfl ⟨rfl, b3.out⟩
end Go.Proofs.YthnlimhpnonnmaaDoorRRR
