/-
  Symbols as plain data: the contracts of ZZReadSymbols, PeSymbols.
-/
import Derived.Test.YthnlimhpnonnmaaDoorRRRPeSyms2
import Derived.Test.YthnlimhpnonnmaaDoorRRRPeRelocsLaw
namespace Go.Proofs.YthnlimhpnonnmaaDoorRRR
set_option linter.unusedVariables false
set_option linter.unusedSimpArgs false
open Go Go.RowKit
attribute [local go_sem ↓] Go.wp_at_zero Go.wp_at_succ

theorem owns_cellsN {w : World} {base : Nat} {e : TypeId} {size : Nat} {v : Value} {n : Nat} {vs : List Value} (h : w.ownsRow base e size v n vs) (h0 : 0 < n) :
    ∃ g cap, v = .slice (some ⟨g, 0, none⟩) n cap ∧ n ≤ cap ∧ base ≤ g ∧ g < w.heap.size ∧ ∀ j u, vs[j]? = some u → w.cell? ⟨g, j, none⟩ = some u := by
  obtain ⟨A, c, rfl, hR, hc, -⟩ := RT.of_owns h
  obtain ⟨g, o, cur, fr, rfl, hg, hcl⟩ := hR.2 h0
  rcases h.2 with ⟨h1, _⟩ | ⟨g', cap', cur', h1, hb, _⟩
  · simp at h1
  · simp only [Value.slice.injEq, Option.some.injEq, Addr.mk.injEq, and_true] at h1
    obtain ⟨⟨rfl, rfl⟩, -, rfl⟩ := h1
    refine ⟨_, _, rfl, hc, hb, (Array.getElem?_eq_some_iff.1 hg).1, fun j u hu => ?_⟩
    rw [cell_of_row w _ j _ _ _ hg]
    simpa using hcl j u hu

theorem IsCoff.keeps {e : TypeId} {w w' : World} {vs : List Value} {c : CoffL} (h : IsCoff w vs c) (hk : Keeps e w w') (he : 5 ≠ e) : IsCoff w' vs c := by
  obtain ⟨A, k, e1, hl, hr⟩ := h
  exact ⟨A, k, e1, hl, hr.keeps hk he⟩

theorem symSt_names (s : List UInt8) : ∀ k, 18 * k ≤ s.length → ∀ x ∈ (symSt s k).1, x.name.length = 8
  | 0, _, x, hx => by cases hx
  | k + 1, h, x, hx => by
    have hb : (blk s k).length = 18 := by simp [blk]; omega
    by_cases h0 : (symSt s k).2 = 0
    · rw [symSt_zero h0] at hx
      rcases List.mem_append.1 hx with hx | hx
      · exact symSt_names s k (by omega) x hx
      · obtain rfl : x = coffL (blk s k) := by simpa using hx
        simp [coffL, hb]
    · rw [symSt_pos h0] at hx
      rcases List.mem_append.1 hx with hx | hx
      · exact symSt_names s k (by omega) x hx
      · obtain rfl : x = auxL (blk s k) := by simpa using hx
        simp [auxL, hb]

theorem symRow_at (s : List UInt8) (n k : Nat) (x : CoffL) (hn : 18 * n ≤ s.length) (hx : (symSt s n).1[k]? = some x) (j : Nat) (u : Value) (hu : (symCells x)[j]? = some u) : (symRow s n)[k * 13 + j]? = some u := by
  refine flatten_at _ 13 (fun c hc => ?_) k (symCells x) (by rw [List.getElem?_map, hx]; rfl) j u hu
  obtain ⟨y, hy, rfl⟩ := List.mem_map.1 hc
  have := symSt_names s n hn y hy
  simp [symCells, symTail, this]

theorem Tryd.infoCoff : (Tryd.prog.info? 35).map (fun i => (i.zero, i.size, i.bytes)) = some (some (.agg #[.slice none 0 0, .int .u32 0, .int .i16 0, .int .u16 0, .int .u8 0, .int .u8 0]), 6, 40) := by kernel_rfl

set_option maxHeartbeats 1000000 in
theorem readSymbols_zero (H ho place n : Nat) (rd : Value) (w : World) (hz : place = 0 ∨ n = 0) (h3c : w.cell? ⟨H, ho + 3, none⟩ = some (.int .u32 place)) (h4c : w.cell? ⟨H, ho + 4, none⟩ = some (.int .u32 n)) :
    Calls Tryd.prog 49 #[.pointer (some ⟨H, ho, none⟩), rd] w fun e w' => e = .returned (.tuple #[.slice none 0 0, .nilIface]) ∧ w = w' := by
  by_cases h0 : place = 0
  · subst h0
    clear hz
    go_enter Tryd.func49, Tryd.ntmps49
    go_wp2
    go_ret2
    exact ⟨rfl, rfl⟩
  · obtain rfl : n = 0 := by omega
    have hp0 : ((place : Int) == 0) = false := by rw [beq_eq_false_iff_ne]; omega
    clear hz
    go_enter Tryd.func49, Tryd.ntmps49
    go_wp2
    go_ret2
    exact ⟨rfl, rfl⟩

set_option maxRecDepth 100000 in
set_option maxHeartbeats 1000000 in
theorem zzSymbols_zero (H place n : Nat) (A : Option Addr) (l : List UInt8) (len c : Nat) (w : World) (h3 : 3 ≤ w.heap.size)
    (hN : Hid (len = l.length)) (hb : len ≤ 2147483647) (hnc : len ≤ c) (hA : Hid (RB w A l)) (hAl : ∀ a, A = some a → a.block < w.heap.size) (h3c : w.cell? ⟨H, 3, none⟩ = some (.int .u32 place)) (h4c : w.cell? ⟨H, 4, none⟩ = some (.int .u32 n)) (hz : place = 0 ∨ n = 0) :
    Calls Tryd.prog 40 #[.pointer (some ⟨H, 0, none⟩), .slice A len c] w fun e w' => e = .returned (.tuple #[.slice none 0 0, .nilIface]) ∧ Below w.heap.size w w' := by
  have hHlt : H < w.heap.size := World.block_lt_of_cell? w _ h3c
  have hR := Lib.hid (Rdr.made (w := w) hN.out hb hnc hA.out hAl h3)
  have hb0 : Below w.heap.size w (w.alloc (.cells #[.slice A len c, .int .i64 0, .int .i64 (-1)] 116)) := (Below.refl _ _).alloc (Nat.le_refl _) _
  have h31 := (hb0.cell (p := ⟨H, 3, none⟩) hHlt).trans h3c
  have h41 := (hb0.cell (p := ⟨H, 4, none⟩) hHlt).trans h4c
  replace hb0 := Lib.hid hb0
  have CALL := Lib.hid (readSymbols_zero H 0 place n (.iface 97 (.pointer (some ⟨w.heap.size, 0, none⟩))) _ hz (by exact h31) (by exact h41))
  go_enter Tryd.func40, Tryd.ntmps40
  go_wp2_with fail
  refine (newReader _ A len c rfl _).mono ?_
  rintro e w' ⟨rfl, rfl⟩
  go_wp2_with fail
  refine CALL.out.mono ?_
  rintro e w2 ⟨rfl, rfl⟩
  go_wp2
  go_ret2
  exact ⟨rfl, hb0.out⟩

set_option maxRecDepth 100000 in
set_option maxHeartbeats 1000000 in
theorem zzSymbols_all (H place n : Nat) (A : Option Addr) (l : List UInt8) (len c : Nat) (w : World) (h3 : 3 ≤ w.heap.size)
    (hN : Hid (len = l.length)) (hb : len ≤ 2147483647) (hnc : len ≤ c) (hA : Hid (RB w A l)) (hAl : ∀ a, A = some a → a.block < w.heap.size) (h3c : w.cell? ⟨H, 3, none⟩ = some (.int .u32 place)) (h4c : w.cell? ⟨H, 4, none⟩ = some (.int .u32 n)) (hpl0 : 0 < place) (hpl : place ≤ 4294967295) (hn : 0 < n) (hn' : n ≤ 65535) (hpos : place + 18 * n ≤ l.length) (hfin : (symSt (l.drop place) n).2 = 0) (TE TU : TypeId) (vE vU : Value) (hErr : Hid (ErrsAt w TE TU vE vU)) :
    Calls Tryd.prog 40 #[.pointer (some ⟨H, 0, none⟩), .slice A len c] w fun e w' => (∃ v, e = .returned (.tuple #[v, .nilIface]) ∧ Hid (w'.ownsRow w.heap.size 68 13 v n (symRow (l.drop place) n))) ∧ Below w.heap.size w w' := by
  have hHlt : H < w.heap.size := World.block_lt_of_cell? w _ h3c
  have hR := Lib.hid (Rdr.made (w := w) hN.out hb hnc hA.out hAl h3)
  have hb0 : Below w.heap.size w (w.alloc (.cells #[.slice A len c, .int .i64 0, .int .i64 (-1)] 116)) := (Below.refl _ _).alloc (Nat.le_refl _) _
  have h31 := (hb0.cell (p := ⟨H, 3, none⟩) hHlt).trans h3c
  have h41 := (hb0.cell (p := ⟨H, 4, none⟩) hHlt).trans h4c
  replace hb0 := Lib.hid hb0
  have E1 := Lib.hid (hErr.out.chg (Chg.of_below (S := fun k => w.heap.size ≤ k) hb0.out (fun k _ h => h)) (by omega) (by omega))
  have CALL := Lib.hid (readSymbols_any H 0 place n _ w.heap.size _ l 0 _ TE TU vE vU E1 hR hpl0 hpl hn hn' (by omega) (by exact h31) (by exact h41) (Lib.hid (fun _ => hfin)))
  have hpos' := hpos
  clear hpos hfin
  go_enter Tryd.func40, Tryd.ntmps40
  go_wp2_with fail
  refine (newReader _ A len c rfl _).mono ?_
  rintro e w' ⟨rfl, rfl⟩
  go_wp2_with fail
  refine CALL.out.mono ?_
  rintro e w2 hp
  obtain ⟨⟨⟨v, rfl, hown⟩, -⟩, C2⟩ := (symPost_ok hpos').1 hp
  have b2 := hb0.out.trans (C2.below (by simp) (fun k hk e => by omega))
  have own2 := Lib.hid (owns_mono (base' := w.heap.size) hown.out (by simp))
  clear C2 hp hown
  go_wp2
  go_ret2
  exact ⟨⟨v, rfl, own2⟩, b2⟩

set_option maxRecDepth 100000 in
set_option maxHeartbeats 1000000 in
theorem zzSymbols_short (H place n : Nat) (A : Option Addr) (l : List UInt8) (len c : Nat) (w : World) (h3 : 3 ≤ w.heap.size)
    (hN : Hid (len = l.length)) (hb : len ≤ 2147483647) (hnc : len ≤ c) (hA : Hid (RB w A l)) (hAl : ∀ a, A = some a → a.block < w.heap.size) (h3c : w.cell? ⟨H, 3, none⟩ = some (.int .u32 place)) (h4c : w.cell? ⟨H, 4, none⟩ = some (.int .u32 n)) (hpl0 : 0 < place) (hpl : place ≤ 4294967295) (hn : 0 < n) (hn' : n ≤ 65535) (hpos : l.length < place + 18 * n) (TE TU : TypeId) (vE vU : Value) (hErr : Hid (ErrsAt w TE TU vE vU)) :
    Calls Tryd.prog 40 #[.pointer (some ⟨H, 0, none⟩), .slice A len c] w fun e w' => (∃ T v, e = .returned (.tuple #[.slice none 0 0, .iface T v])) ∧ Below w.heap.size w w' := by
  have hHlt : H < w.heap.size := World.block_lt_of_cell? w _ h3c
  have hR := Lib.hid (Rdr.made (w := w) hN.out hb hnc hA.out hAl h3)
  have hb0 : Below w.heap.size w (w.alloc (.cells #[.slice A len c, .int .i64 0, .int .i64 (-1)] 116)) := (Below.refl _ _).alloc (Nat.le_refl _) _
  have h31 := (hb0.cell (p := ⟨H, 3, none⟩) hHlt).trans h3c
  have h41 := (hb0.cell (p := ⟨H, 4, none⟩) hHlt).trans h4c
  replace hb0 := Lib.hid hb0
  have E1 := Lib.hid (hErr.out.chg (Chg.of_below (S := fun k => w.heap.size ≤ k) hb0.out (fun k _ h => h)) (by omega) (by omega))
  have CALL := Lib.hid (readSymbols_any H 0 place n _ w.heap.size _ l 0 _ TE TU vE vU E1 hR hpl0 hpl hn hn' (by omega) (by exact h31) (by exact h41) (Lib.hid (fun h => absurd h (by omega))))
  have hpos' := hpos
  clear hpos
  go_enter Tryd.func40, Tryd.ntmps40
  go_wp2_with fail
  refine (newReader _ A len c rfl _).mono ?_
  rintro e w' ⟨rfl, rfl⟩
  go_wp2_with fail
  refine CALL.out.mono ?_
  rintro e w2 hp
  obtain ⟨⟨T, v, rfl⟩, C2⟩ := (symPost_bad hpos').1 hp
  have b2 := hb0.out.trans (C2.below (by simp) (fun k hk e => by omega))
  clear C2 hp
  go_wp2
  go_ret2
  exact ⟨⟨T, v, rfl⟩, b2⟩

set_option maxRecDepth 100000 in
set_option maxHeartbeats 2000000 in
theorem implSymbols_zero (place n : Nat) (A : Option Addr) (l : List UInt8) (len c : Nat) (w : World) (hz : place = 0 ∨ n = 0) (h3 : 3 ≤ w.heap.size) (hN : Hid (len = l.length)) (hb : len ≤ 2147483647) (hA : RB w A l) :
    Calls Tryd.prog 25 #[.int .u32 place, .int .u32 n, .slice A len c] w fun e w' => e = .returned (.tuple #[.slice none 0 0, .bool true]) ∧ Below w.heap.size w w' := by
  have g1 := Lib.hid (heap_alloc_new w (.cells #[.int .u16 0, .int .u16 0, .int .u32 0, .int .u32 place, .int .u32 n, .int .u16 0, .int .u16 0] 58))
  have b1 : Below w.heap.size w (w.alloc (.cells #[.int .u16 0, .int .u16 0, .int .u32 0, .int .u32 place, .int .u32 n, .int .u16 0, .int .u16 0] 58)) := (Below.refl _ _).alloc (Nat.le_refl _) _
  have A1 := Lib.hid (hA.later b1)
  replace b1 := Lib.hid b1
  go_enter Tryd.func25, Tryd.ntmps25
  go_wp2_with fail
  refine (copied_any A l len c hN.out hb _ A1.out).mono ?_
  rintro e w2 ⟨⟨v, rfl, hown⟩, hb2⟩
  clear A1
  obtain ⟨-, A1, k1, rfl, R1, hc1, hcm, hA1, hA2⟩ := RB.of_owns hown
  replace R1 := Lib.hid R1
  have hlt := fun (a : Addr) (ha : A1 = some a) => owned_lt hown (by rw [ha])
  have g2 := row_later hb2 g1
  have b2 := Lib.hid (b1.out.trans (hb2.mono b1.out.size))
  have hz2 := b2.out.size
  clear hown hA1 hA2 hcm hb2 g1 b1
  have h3c : w2.cell? ⟨w.heap.size, 3, none⟩ = some (.int .u32 place) := World.cell?_of_row g2.out 3 _ rfl
  have h4c : w2.cell? ⟨w.heap.size, 4, none⟩ = some (.int .u32 n) := World.cell?_of_row g2.out 4 _ rfl
  have CALL := Lib.hid (zzSymbols_zero w.heap.size place n A1 l len k1 w2 (by omega) hN hb hc1 R1 hlt h3c h4c hz)
  clear h3c h4c
  go_wp2_with fail
  refine CALL.out.mono ?_
  rintro e w3 ⟨rfl, b3⟩
  have b4 := Lib.hid (b2.out.trans (b3.mono b2.out.size))
  clear b3 CALL
  go_wp2
  refine wp_loop_rounds 1 ?_
  rw [rounds_succ]
  go_wp2
  go_ret2
  exact ⟨rfl, b4.out⟩

set_option maxRecDepth 100000 in
set_option maxHeartbeats 2000000 in
theorem implSymbols_all (place n : Nat) (A : Option Addr) (l : List UInt8) (len c : Nat) (w : World) (hpl0 : 0 < place) (hpl : place ≤ 4294967295) (hn : 0 < n) (hn' : n ≤ 65535) (hpos : place + 18 * n ≤ l.length) (hfin : (symSt (l.drop place) n).2 = 0) (TE TU : TypeId) (vE vU : Value) (hErr : Hid (ErrsAt w TE TU vE vU)) (h3 : 3 ≤ w.heap.size) (hN : Hid (len = l.length)) (hb : len ≤ 2147483647) (hA : RB w A l) :
    Calls Tryd.prog 25 #[.int .u32 place, .int .u32 n, .slice A len c] w fun e w' => (∃ v vs, e = .returned (.tuple #[v, .bool true]) ∧ Hid (w'.ownsRow w.heap.size 35 6 v n vs) ∧ Hid (Recs IsCoff w' 6 n vs (symSt (l.drop place) n).1)) ∧ Below w.heap.size w w' := by
  have g1 := Lib.hid (heap_alloc_new w (.cells #[.int .u16 0, .int .u16 0, .int .u32 0, .int .u32 place, .int .u32 n, .int .u16 0, .int .u16 0] 58))
  have b1 : Below w.heap.size w (w.alloc (.cells #[.int .u16 0, .int .u16 0, .int .u32 0, .int .u32 place, .int .u32 n, .int .u16 0, .int .u16 0] 58)) := (Below.refl _ _).alloc (Nat.le_refl _) _
  have A1 := Lib.hid (hA.later b1)
  replace b1 := Lib.hid b1
  go_enter Tryd.func25, Tryd.ntmps25
  go_wp2_with fail
  refine (copied_any A l len c hN.out hb _ A1.out).mono ?_
  rintro e w2 ⟨⟨v, rfl, hown⟩, hb2⟩
  clear A1
  obtain ⟨-, A1, k1, rfl, R1, hc1, hcm, hA1, hA2⟩ := RB.of_owns hown
  replace R1 := Lib.hid R1
  have hlt := fun (a : Addr) (ha : A1 = some a) => owned_lt hown (by rw [ha])
  have g2 := row_later hb2 g1
  have b2 := Lib.hid (b1.out.trans (hb2.mono b1.out.size))
  have hz2 := b2.out.size
  clear hown hA1 hA2 hcm hb2 g1 b1
  have h3c : w2.cell? ⟨w.heap.size, 3, none⟩ = some (.int .u32 place) := World.cell?_of_row g2.out 3 _ rfl
  have h4c : w2.cell? ⟨w.heap.size, 4, none⟩ = some (.int .u32 n) := World.cell?_of_row g2.out 4 _ rfl
  have E2 := Lib.hid (hErr.out.chg (Chg.of_below (S := fun k => w.heap.size ≤ k) b2.out (fun k _ h => h)) (by omega) (by omega))
  have CALL := Lib.hid (zzSymbols_all w.heap.size place n A1 l len k1 w2 (by omega) hN hb hc1 R1 hlt h3c h4c hpl0 hpl hn hn' hpos hfin TE TU vE vU E2)
  clear h3c h4c
  go_wp2_with fail
  refine CALL.out.mono ?_
  rintro e w3 ⟨⟨v, rfl, hown⟩, b3⟩
  have b4 := Lib.hid (b2.out.trans (b3.mono b2.out.size))
  clear b3 CALL
  obtain ⟨i0, hi, hz0, hz1, hz2⟩ := info_parts Tryd.infoCoff
  obtain ⟨g, cap, rfl, hcap, -, hglt, hcl⟩ := owns_cellsN hown.out hn
  replace hcl := Lib.hid hcl
  have hs18 := Lib.hid (show 18 * n ≤ (l.drop place).length by simp; omega)
  have hlen := Lib.hid (symSt_len (l.drop place) n)
  have hz4 := b4.out.size
  clear hown hpos hfin
  go_wp2
  go_loopw [10, 27] (fun u i wr => ∃ (k : Nat) (vs : List Value), k ≤ n ∧ i = .int .i64 k ∧ Hid (wr.ownsRow w3.heap.size 35 6 u k vs) ∧ Hid (Recs IsCoff wr 6 k vs ((symSt (l.drop place) n).1.take k)) ∧ Hid (Below w3.heap.size w3 wr)) (fun _ i _ => n - (intOf i).toNat)
  case atStart => exact ⟨0, [], Nat.zero_le _, rfl, Lib.hid (World.ownsRow_nil _ _ _ _), Lib.hid (Recs.nil _ _ _), Lib.hid (Below.refl _ _)⟩
  case round =>
    obtain ⟨k, vs, hk, rfl, hown, hrec, hbr⟩ := hrel
    have hzr := hbr.out.size
    by_cases hkn : k < n
    · obtain ⟨x, hx⟩ : ∃ x, (symSt (l.drop place) n).1[k]? = some x := ⟨_, List.getElem?_eq_getElem (by rw [hlen.out]; exact hkn)⟩
      have h8 := symSt_names _ n hs18.out x (List.mem_of_getElem? hx)
      have htk := Lib.hid (show (symSt (l.drop place) n).1.take (k + 1) = (symSt (l.drop place) n).1.take k ++ [x] by rw [List.take_add_one, hx]; rfl)
      replace hx := Lib.hid hx
      obtain ⟨nm, x1, x2, x3, x4, x5⟩ := x
      obtain ⟨y0, y1, y2, y3, y4, y5, y6, y7, rfl⟩ := name8 h8
      have hi0 : (0 : Int) ≤ (k : Int) := by omega
      have hi1 : (k : Int) < (n : Int) := by omega
      have d0 : wr.cell? ⟨g, k * 13, none⟩ = some (.int .u8 (y0.toNat : Int)) := (hbr.out.cell (p := ⟨g, k * 13, none⟩) hglt).trans (hcl.out (k * 13 + 0) _ (symRow_at _ n k _ hs18.out hx.out 0 _ rfl))
      have d1 : wr.cell? ⟨g, k * 13 + 1, none⟩ = some (.int .u8 (y1.toNat : Int)) := (hbr.out.cell (p := ⟨g, k * 13 + 1, none⟩) hglt).trans (hcl.out (k * 13 + 1) _ (symRow_at _ n k _ hs18.out hx.out 1 _ rfl))
      have d2 : wr.cell? ⟨g, k * 13 + 2, none⟩ = some (.int .u8 (y2.toNat : Int)) := (hbr.out.cell (p := ⟨g, k * 13 + 2, none⟩) hglt).trans (hcl.out (k * 13 + 2) _ (symRow_at _ n k _ hs18.out hx.out 2 _ rfl))
      have d3 : wr.cell? ⟨g, k * 13 + 3, none⟩ = some (.int .u8 (y3.toNat : Int)) := (hbr.out.cell (p := ⟨g, k * 13 + 3, none⟩) hglt).trans (hcl.out (k * 13 + 3) _ (symRow_at _ n k _ hs18.out hx.out 3 _ rfl))
      have d4 : wr.cell? ⟨g, k * 13 + 4, none⟩ = some (.int .u8 (y4.toNat : Int)) := (hbr.out.cell (p := ⟨g, k * 13 + 4, none⟩) hglt).trans (hcl.out (k * 13 + 4) _ (symRow_at _ n k _ hs18.out hx.out 4 _ rfl))
      have d5 : wr.cell? ⟨g, k * 13 + 5, none⟩ = some (.int .u8 (y5.toNat : Int)) := (hbr.out.cell (p := ⟨g, k * 13 + 5, none⟩) hglt).trans (hcl.out (k * 13 + 5) _ (symRow_at _ n k _ hs18.out hx.out 5 _ rfl))
      have d6 : wr.cell? ⟨g, k * 13 + 6, none⟩ = some (.int .u8 (y6.toNat : Int)) := (hbr.out.cell (p := ⟨g, k * 13 + 6, none⟩) hglt).trans (hcl.out (k * 13 + 6) _ (symRow_at _ n k _ hs18.out hx.out 6 _ rfl))
      have d7 : wr.cell? ⟨g, k * 13 + 7, none⟩ = some (.int .u8 (y7.toNat : Int)) := (hbr.out.cell (p := ⟨g, k * 13 + 7, none⟩) hglt).trans (hcl.out (k * 13 + 7) _ (symRow_at _ n k _ hs18.out hx.out 7 _ rfl))
      have d8 : wr.cell? ⟨g, k * 13 + 8, none⟩ = some (.int .u32 x1) := (hbr.out.cell (p := ⟨g, k * 13 + 8, none⟩) hglt).trans (hcl.out (k * 13 + 8) _ (symRow_at _ n k _ hs18.out hx.out 8 _ rfl))
      have d9 : wr.cell? ⟨g, k * 13 + 9, none⟩ = some (.int .i16 x2) := (hbr.out.cell (p := ⟨g, k * 13 + 9, none⟩) hglt).trans (hcl.out (k * 13 + 9) _ (symRow_at _ n k _ hs18.out hx.out 9 _ rfl))
      have d10 : wr.cell? ⟨g, k * 13 + 10, none⟩ = some (.int .u16 x3) := (hbr.out.cell (p := ⟨g, k * 13 + 10, none⟩) hglt).trans (hcl.out (k * 13 + 10) _ (symRow_at _ n k _ hs18.out hx.out 10 _ rfl))
      have d11 : wr.cell? ⟨g, k * 13 + 11, none⟩ = some (.int .u8 x4) := (hbr.out.cell (p := ⟨g, k * 13 + 11, none⟩) hglt).trans (hcl.out (k * 13 + 11) _ (symRow_at _ n k _ hs18.out hx.out 11 _ rfl))
      have d12 : wr.cell? ⟨g, k * 13 + 12, none⟩ = some (.int .u8 x5) := (hbr.out.cell (p := ⟨g, k * 13 + 12, none⟩) hglt).trans (hcl.out (k * 13 + 12) _ (symRow_at _ n k _ hs18.out hx.out 12 _ rfl))
      have own1 := Lib.hid (hown.out.alloc (.cells #[.int .u8 (y0.toNat : Int), .int .u8 (y1.toNat : Int), .int .u8 (y2.toNat : Int), .int .u8 (y3.toNat : Int), .int .u8 (y4.toNat : Int), .int .u8 (y5.toNat : Int), .int .u8 (y6.toNat : Int), .int .u8 (y7.toNat : Int), .int .u32 x1, .int .i16 x2, .int .u16 x3, .int .u8 x4, .int .u8 x5] 68))
      have bk := Lib.hid ((Below.refl wr.heap.size wr).alloc (Nat.le_refl _) (.cells #[.int .u8 (y0.toNat : Int), .int .u8 (y1.toNat : Int), .int .u8 (y2.toNat : Int), .int .u8 (y3.toNat : Int), .int .u8 (y4.toNat : Int), .int .u8 (y5.toNat : Int), .int .u8 (y6.toNat : Int), .int .u8 (y7.toNat : Int), .int .u32 x1, .int .i16 x2, .int .u16 x3, .int .u8 x4, .int .u8 x5] 68))
      have hc1 := Lib.hid (coffOf_any ⟨[y0, y1, y2, y3, y4, y5, y6, y7], x1, x2, x3, x4, x5⟩ h8 (wr.alloc (.cells #[.int .u8 (y0.toNat : Int), .int .u8 (y1.toNat : Int), .int .u8 (y2.toNat : Int), .int .u8 (y3.toNat : Int), .int .u8 (y4.toNat : Int), .int .u8 (y5.toNat : Int), .int .u8 (y6.toNat : Int), .int .u8 (y7.toNat : Int), .int .u32 x1, .int .i16 x2, .int .u16 x3, .int .u8 x4, .int .u8 x5] 68)))
      clear h8
      go_wp2_with fail
      refine hc1.out.mono ?_
      rintro e w4 ⟨⟨cv, rfl, hcv⟩, b5⟩
      have hzz := b5.size
      simp only [World.size_alloc] at hzz
      obtain ⟨NA, kA, rfl, h8', RA⟩ := hcv
      simp only [symTail] at RA ⊢
      have own2 := Lib.hid ((owns_later own1.out b5).alloc (.cells #[.slice NA 8 kA, .int .u32 x1, .int .i16 x2, .int .u16 x3, .int .u8 x4, .int .u8 x5] 35))
      have bk2 := Lib.hid ((bk.out.trans (b5.mono (by simp))).alloc (by omega) (.cells #[.slice NA 8 kA, .int .u32 x1, .int .i16 x2, .int .u16 x3, .int .u8 x4, .int .u8 x5] 35))
      have hcf : IsCoff (w4.alloc (.cells #[.slice NA 8 kA, .int .u32 x1, .int .i16 x2, .int .u16 x3, .int .u8 x4, .int .u8 x5] 35)) [.slice NA 8 kA, .int .u32 x1, .int .i16 x2, .int .u16 x3, .int .u8 x4, .int .u8 x5] ⟨[y0, y1, y2, y3, y4, y5, y6, y7], x1, x2, x3, x4, x5⟩ := ⟨NA, kA, rfl, h8', RA.later ((Below.refl _ _).alloc (Nat.le_refl _) _)⟩
      replace hcf := Lib.hid hcf
      replace h8' := Lib.hid h8'
      have hrc := rc_newN (w := w4) (vs := [.slice NA 8 kA, .int .u32 x1, .int .i16 x2, .int .u16 x3, .int .u8 x4, .int .u8 x5]) (T := 35) (k := w4.heap.size) (size := 6) (n := 1) rfl rfl
      clear RA own1 b5 hc1
      go_wp2_with (at_builtin; refine Stop.mk ?_)
      refine Stop.go ?_
      refine wpList_append_any rfl (.tmp 31) (.tmp 34) 52 rfl w3.heap.size 35 i0 _ 6 40 Tryd.underlying52 hi hz0 hz1 hz2 rfl (by omega) _ k _ rfl own2.out (some ⟨w4.heap.size, 0, none⟩) 1 1 [.slice NA 8 kA, .int .u32 x1, .int .i16 x2, .int .u16 x3, .int .u8 x4, .int .u8 x5] rfl hrc (List.all_eq_true.1 rfl) (by simp only [maxLen]; omega) (by omega) (by simp; omega) ?_
      intro v1 w5 hown1 hg1 hat1
      have hk3 := Keeps.of_grown own2.out hg1
      have hrec1 := Lib.hid (((hrec.out.mono (fun c x h => (h.later bk2.out).keeps hk3 (by decide))).push (c := [.slice NA 8 kA, .int .u32 x1, .int .i16 x2, .int .u16 x3, .int .u8 x4, .int .u8 x5]) rfl (hcf.out.keeps hk3 (by decide))))
      rw [← htk.out] at hrec1
      have hb1 := Lib.hid ((hbr.out.trans (bk2.out.mono hzr)).grown hg1 (by simp; omega) (fun q hq => (own2.out.lt q hq).1))
      replace hown1 := Lib.hid hown1
      clear hg1 hat1 hown hbr hk3 hrec own2 bk bk2 hcf hrc
      go_wp2
      go_roundw
      case rel => exact ⟨k + 1, _, by omega, by go_num, hown1, hrec1, hb1⟩
      case measure => simp [intOf]; omega
    · obtain rfl : k = n := by omega
      have hrec2 := hrec.out
      rw [List.take_of_length_le (by rw [hlen.out]; exact Nat.le_refl _)] at hrec2
      replace hrec2 := Lib.hid hrec2
      have own9 := Lib.hid (owns_mono hown.out hz4)
      go_wp2
      go_ret2
      exact ⟨⟨_, _, rfl, own9, hrec2⟩, b4.out.trans (hbr.out.mono hz4)⟩

set_option maxRecDepth 100000 in
set_option maxHeartbeats 2000000 in
theorem implSymbols_short (place n : Nat) (A : Option Addr) (l : List UInt8) (len c : Nat) (w : World) (hpl0 : 0 < place) (hpl : place ≤ 4294967295) (hn : 0 < n) (hn' : n ≤ 65535) (hpos : l.length < place + 18 * n) (TE TU : TypeId) (vE vU : Value) (hErr : Hid (ErrsAt w TE TU vE vU)) (h3 : 3 ≤ w.heap.size) (hN : Hid (len = l.length)) (hb : len ≤ 2147483647) (hA : RB w A l) :
    Calls Tryd.prog 25 #[.int .u32 place, .int .u32 n, .slice A len c] w fun e w' => e = .returned (.tuple #[.slice none 0 0, .bool false]) ∧ Below w.heap.size w w' := by
  have g1 := Lib.hid (heap_alloc_new w (.cells #[.int .u16 0, .int .u16 0, .int .u32 0, .int .u32 place, .int .u32 n, .int .u16 0, .int .u16 0] 58))
  have b1 : Below w.heap.size w (w.alloc (.cells #[.int .u16 0, .int .u16 0, .int .u32 0, .int .u32 place, .int .u32 n, .int .u16 0, .int .u16 0] 58)) := (Below.refl _ _).alloc (Nat.le_refl _) _
  have A1 := Lib.hid (hA.later b1)
  replace b1 := Lib.hid b1
  go_enter Tryd.func25, Tryd.ntmps25
  go_wp2_with fail
  refine (copied_any A l len c hN.out hb _ A1.out).mono ?_
  rintro e w2 ⟨⟨v, rfl, hown⟩, hb2⟩
  clear A1
  obtain ⟨-, A1, k1, rfl, R1, hc1, hcm, hA1, hA2⟩ := RB.of_owns hown
  replace R1 := Lib.hid R1
  have hlt := fun (a : Addr) (ha : A1 = some a) => owned_lt hown (by rw [ha])
  have g2 := row_later hb2 g1
  have b2 := Lib.hid (b1.out.trans (hb2.mono b1.out.size))
  have hz2 := b2.out.size
  clear hown hA1 hA2 hcm hb2 g1 b1
  have h3c : w2.cell? ⟨w.heap.size, 3, none⟩ = some (.int .u32 place) := World.cell?_of_row g2.out 3 _ rfl
  have h4c : w2.cell? ⟨w.heap.size, 4, none⟩ = some (.int .u32 n) := World.cell?_of_row g2.out 4 _ rfl
  have E2 := Lib.hid (hErr.out.chg (Chg.of_below (S := fun k => w.heap.size ≤ k) b2.out (fun k _ h => h)) (by omega) (by omega))
  have CALL := Lib.hid (zzSymbols_short w.heap.size place n A1 l len k1 w2 (by omega) hN hb hc1 R1 hlt h3c h4c hpl0 hpl hn hn' hpos TE TU vE vU E2)
  clear h3c h4c
  go_wp2_with fail
  refine CALL.out.mono ?_
  rintro e w3 ⟨⟨T, v, rfl⟩, b3⟩
  have b4 := Lib.hid (b2.out.trans (b3.mono b2.out.size))
  clear b3 CALL
  go_wp2
  go_ret2
  exact ⟨rfl, b4.out⟩
end Go.Proofs.YthnlimhpnonnmaaDoorRRR
