/-
  The table of texts as plain data; the reference's; the walk of the law FnPeTexts.
-/
import Derived.Test.YthnlimhpnonnmaaDoorRRRPeTexts2
import Derived.Test.YthnlimhpnonnmaaDoorRRRPeRelocsLaw
namespace Go.Proofs.YthnlimhpnonnmaaDoorRRR
set_option linter.unusedVariables false
set_option linter.unusedSimpArgs false
open Go Go.RowKit

/-- The table of texts behind the symbols, where there is one. -/
def textsAt (place off : Nat) (l : List UInt8) : Option (List UInt8) :=
  if place = 0 then some [] else if l.length < off + 4 then none else
    if num false ((l.drop off).take 4) ≤ 4 then some [] else if l.length < off + num false ((l.drop off).take 4) then none else some ((l.drop (off + 4)).take (num false ((l.drop off).take 4) - 4))

theorem stringTable_some (H ho place n off : Nat) (rd : Value) (M : Nat) (D : Nat → Prop) (l r : List UInt8) (pos : Nat) (w : World) (hR : Hid (Rdr w rd M D l pos)) (hpl : (place : Int) + 18 * (n : Int) = (off : Int)) (ho' : off ≤ 4294967295) (hn' : n ≤ 4294967295) (hHM : H ≠ M) (hL : Hid (l.length < 10485760)) (h3c : w.cell? ⟨H, ho + 3, none⟩ = some (.int .u32 place)) (h4c : w.cell? ⟨H, ho + 4, none⟩ = some (.int .u32 n)) (hr : textsAt place off l = some r) :
    Calls Tryd.prog 50 #[.pointer (some ⟨H, ho, none⟩), rd] w fun e w' => (∃ A c, e = .returned (.tuple #[.slice A r.length c, .nilIface]) ∧ r.length ≤ c ∧ Hid (RB w' A r) ∧ ∀ a, A = some a → w.heap.size ≤ a.block) ∧ Chg (fun k => k = M) w w' := by
  unfold textsAt at hr
  by_cases h0 : place = 0
  · rw [if_pos h0] at hr
    obtain rfl := Option.some.inj hr
    subst h0
    exact (stringTable_zero H ho rd w h3c).mono fun e w' ⟨he, hw⟩ => ⟨⟨none, 0, he, Nat.le_refl _, Lib.hid (RB.nil _ _), fun a ha => by cases ha⟩, hw ▸ Chg.refl _ _⟩
  · rw [if_neg h0] at hr
    by_cases h1 : l.length < off + 4
    · rw [if_pos h1] at hr; cases hr
    · rw [if_neg h1] at hr
      by_cases h2 : num false ((l.drop off).take 4) ≤ 4
      · rw [if_pos h2] at hr
        obtain rfl := Option.some.inj hr
        exact (stringTable_small H ho place n off rd M D l pos w hR (by omega) hpl ho' (Lib.hid (by omega)) h2 hHM hL h3c h4c).mono fun e w' ⟨he, _, hw⟩ => ⟨⟨none, 0, he, Nat.le_refl _, Lib.hid (RB.nil _ _), fun a ha => by cases ha⟩, hw⟩
      · rw [if_neg h2] at hr
        obtain ⟨m, hm⟩ : ∃ m, num false ((l.drop off).take 4) = m + 4 := ⟨_, (Nat.sub_add_cancel (by omega)).symm⟩
        rw [hm] at hr h2
        by_cases h3 : l.length < off + (m + 4)
        · rw [if_pos h3] at hr; cases hr
        · rw [if_neg h3, Nat.add_sub_cancel] at hr
          obtain rfl := Option.some.inj hr
          have hlen : ((l.drop (off + 4)).take m).length = m := by simp; omega
          refine (stringTable_ok H ho place n off m rd M D l pos w hR (by omega) hpl ho' (Lib.hid (by omega)) hm (by omega) hHM hL h3c h4c).mono ?_
          rintro e w' ⟨⟨g, rfl, hg, G⟩, _, hw⟩
          rw [hlen]
          exact ⟨⟨_, _, rfl, Nat.le_refl _, Lib.hid (RB.of_row G.out), fun a ha => by cases ha; exact hg⟩, hw⟩

theorem stringTable_none (H ho place n off : Nat) (rd : Value) (M : Nat) (D : Nat → Prop) (l : List UInt8) (pos : Nat) (w : World) (TE TU : TypeId) (vE vU : Value) (hErr : Hid (ErrsAt w TE TU vE vU)) (hR : Hid (Rdr w rd M D l pos)) (hpl : (place : Int) + 18 * (n : Int) = (off : Int)) (ho' : off ≤ 4294967295) (hn' : n ≤ 4294967295) (hHM : H ≠ M) (hL : Hid (l.length < 10485760)) (h3c : w.cell? ⟨H, ho + 3, none⟩ = some (.int .u32 place)) (h4c : w.cell? ⟨H, ho + 4, none⟩ = some (.int .u32 n)) (hr : textsAt place off l = none) :
    Calls Tryd.prog 50 #[.pointer (some ⟨H, ho, none⟩), rd] w fun e w' => (∃ T v, e = .returned (.tuple #[.slice none 0 0, .iface T v])) ∧ Chg (fun k => k = M) w w' := by
  unfold textsAt at hr
  by_cases h0 : place = 0
  · rw [if_pos h0] at hr; cases hr
  · rw [if_neg h0] at hr
    by_cases h1 : l.length < off + 4
    · exact stringTable_nonum H ho place n off rd M D l pos w TE TU vE vU hErr hR (by omega) hpl ho' (Lib.hid h1) hHM hL h3c h4c
    · rw [if_neg h1] at hr
      by_cases h2 : num false ((l.drop off).take 4) ≤ 4
      · rw [if_pos h2] at hr; cases hr
      · rw [if_neg h2] at hr
        obtain ⟨m, hm⟩ : ∃ m, num false ((l.drop off).take 4) = m + 4 := ⟨_, (Nat.sub_add_cancel (by omega)).symm⟩
        rw [hm] at hr h2
        by_cases h3 : l.length < off + (m + 4)
        · exact stringTable_bad H ho place n off m rd M D l pos w TE TU vE vU hErr hR (by omega) hpl ho' (Lib.hid (by omega)) hm (by omega) (Lib.hid (by omega)) hHM hL h3c h4c
        · rw [if_neg h3] at hr; cases hr

set_option maxRecDepth 100000 in
set_option maxHeartbeats 1000000 in
theorem zzTexts_some (H place n off : Nat) (A : Option Addr) (l r : List UInt8) (len c : Nat) (w : World) (h3 : 3 ≤ w.heap.size) (hpl : (place : Int) + 18 * (n : Int) = (off : Int)) (ho' : off ≤ 4294967295) (hn' : n ≤ 4294967295)
    (hN : Hid (len = l.length)) (hb : len ≤ 1048576) (hnc : len ≤ c) (hA : Hid (RB w A l)) (hAl : ∀ a, A = some a → a.block < w.heap.size) (h3c : w.cell? ⟨H, 3, none⟩ = some (.int .u32 place)) (h4c : w.cell? ⟨H, 4, none⟩ = some (.int .u32 n)) (hr : textsAt place off l = some r) :
    Calls Tryd.prog 41 #[.pointer (some ⟨H, 0, none⟩), .slice A len c] w fun e w' => (∃ A c, e = .returned (.tuple #[.slice A r.length c, .nilIface]) ∧ r.length ≤ c ∧ Hid (RB w' A r) ∧ ∀ a, A = some a → w.heap.size ≤ a.block) ∧ Below w.heap.size w w' := by
  have hHlt : H < w.heap.size := World.block_lt_of_cell? w _ h3c
  have hR := Lib.hid (Rdr.made (w := w) hN.out (by omega) hnc hA.out hAl h3)
  have hL := Lib.hid (show l.length < 10485760 by have := hN.out; omega)
  have hb0 : Below w.heap.size w (w.alloc (.cells #[.slice A len c, .int .i64 0, .int .i64 (-1)] 116)) := (Below.refl _ _).alloc (Nat.le_refl _) _
  have h31 := (hb0.cell (p := ⟨H, 3, none⟩) hHlt).trans h3c
  have h41 := (hb0.cell (p := ⟨H, 4, none⟩) hHlt).trans h4c
  replace hb0 := Lib.hid hb0
  have CALL := Lib.hid (stringTable_some H 0 place n off _ w.heap.size _ l r 0 _ hR hpl ho' hn' (by omega) hL (by exact h31) (by exact h41) hr)
  go_enter Tryd.func41, Tryd.ntmps41
  go_wp2_with fail
  refine (newReader _ A len c rfl _).mono ?_
  rintro e w' ⟨rfl, rfl⟩
  go_wp2_with fail
  refine CALL.out.mono ?_
  rintro e w2 ⟨⟨A2, c2, rfl, hc2, R2, hA2⟩, C2⟩
  have b2 := hb0.out.trans (C2.below (by simp) (fun k hk e => by omega))
  replace hA2 := Lib.hid hA2
  clear C2
  go_wp2
  go_ret2
  exact ⟨⟨_, _, rfl, hc2, R2, fun a ha => by have := hA2.out a ha; simp at this; omega⟩, b2⟩

set_option maxRecDepth 100000 in
set_option maxHeartbeats 1000000 in
theorem zzTexts_none (H place n off : Nat) (A : Option Addr) (l : List UInt8) (len c : Nat) (w : World) (TE TU : TypeId) (vE vU : Value) (hErr : Hid (ErrsAt w TE TU vE vU)) (h3 : 3 ≤ w.heap.size) (hpl : (place : Int) + 18 * (n : Int) = (off : Int)) (ho' : off ≤ 4294967295) (hn' : n ≤ 4294967295)
    (hN : Hid (len = l.length)) (hb : len ≤ 1048576) (hnc : len ≤ c) (hA : Hid (RB w A l)) (hAl : ∀ a, A = some a → a.block < w.heap.size) (h3c : w.cell? ⟨H, 3, none⟩ = some (.int .u32 place)) (h4c : w.cell? ⟨H, 4, none⟩ = some (.int .u32 n)) (hr : textsAt place off l = none) :
    Calls Tryd.prog 41 #[.pointer (some ⟨H, 0, none⟩), .slice A len c] w fun e w' => (∃ T v, e = .returned (.tuple #[.slice none 0 0, .iface T v])) ∧ Below w.heap.size w w' := by
  have hHlt : H < w.heap.size := World.block_lt_of_cell? w _ h3c
  have hR := Lib.hid (Rdr.made (w := w) hN.out (by omega) hnc hA.out hAl h3)
  have hL := Lib.hid (show l.length < 10485760 by have := hN.out; omega)
  have hb0 : Below w.heap.size w (w.alloc (.cells #[.slice A len c, .int .i64 0, .int .i64 (-1)] 116)) := (Below.refl _ _).alloc (Nat.le_refl _) _
  have h31 := (hb0.cell (p := ⟨H, 3, none⟩) hHlt).trans h3c
  have h41 := (hb0.cell (p := ⟨H, 4, none⟩) hHlt).trans h4c
  replace hb0 := Lib.hid hb0
  have E1 := Lib.hid (hErr.out.chg (Chg.of_below (S := fun k => w.heap.size ≤ k) hb0.out (fun k _ h => h)) (by omega) (by omega))
  have CALL := Lib.hid (stringTable_none H 0 place n off _ w.heap.size _ l 0 _ TE TU vE vU E1 hR hpl ho' hn' (by omega) hL (by exact h31) (by exact h41) hr)
  go_enter Tryd.func41, Tryd.ntmps41
  go_wp2_with fail
  refine (newReader _ A len c rfl _).mono ?_
  rintro e w' ⟨rfl, rfl⟩
  go_wp2_with fail
  refine CALL.out.mono ?_
  rintro e w2 ⟨⟨T, v, rfl⟩, C2⟩
  have b2 := hb0.out.trans (C2.below (by simp) (fun k hk e => by omega))
  clear C2
  go_wp2
  go_ret2
  exact ⟨⟨_, _, rfl⟩, b2⟩

theorem textsAt_le {place off : Nat} {l r : List UInt8} (h : textsAt place off l = some r) {B : Nat} (hB : l.length ≤ B) : r.length ≤ B := by
  unfold textsAt at h
  split at h
  · cases h; simp
  · split at h
    · cases h
    · split at h
      · cases h; simp
      · split at h
        · cases h
        · cases h
          simp
          omega

set_option maxRecDepth 100000 in
set_option maxHeartbeats 1000000 in
theorem implTexts_some (place n off : Nat) (A : Option Addr) (l r : List UInt8) (len c : Nat) (w : World) (h3 : 3 ≤ w.heap.size) (hpl : (place : Int) + 18 * (n : Int) = (off : Int)) (ho' : off ≤ 4294967295) (hn' : n ≤ 4294967295) (hN : Hid (len = l.length)) (hb : len ≤ 1048576) (hA : RB w A l) (hr : textsAt place off l = some r) :
    Calls Tryd.prog 26 #[.int .u32 place, .int .u32 n, .slice A len c] w fun e w' => (∃ A c, e = .returned (.tuple #[.slice A r.length c, .bool true]) ∧ Hid (RB w' A r)) ∧ Below w.heap.size w w' := by
  have g1 := Lib.hid (heap_alloc_new w (.cells #[.int .u16 0, .int .u16 0, .int .u32 0, .int .u32 place, .int .u32 n, .int .u16 0, .int .u16 0] 58))
  have b1 : Below w.heap.size w (w.alloc (.cells #[.int .u16 0, .int .u16 0, .int .u32 0, .int .u32 place, .int .u32 n, .int .u16 0, .int .u16 0] 58)) := (Below.refl _ _).alloc (Nat.le_refl _) _
  have A1 := Lib.hid (hA.later b1)
  replace b1 := Lib.hid b1
  have hpl' := Lib.hid hpl
  have hr' := Lib.hid hr
  clear hpl hr
  go_enter Tryd.func26, Tryd.ntmps26
  go_wp2_with fail
  refine (copied_any A l len c hN.out (by omega) _ A1.out).mono ?_
  rintro e w2 ⟨⟨v, rfl, hown⟩, hb2⟩
  clear A1
  obtain ⟨-, A1, k1, rfl, R1, hc1, hcm, hA1, hA2⟩ := RB.of_owns hown
  replace R1 := Lib.hid R1
  have hlt := fun (a : Addr) (ha : A1 = some a) => owned_lt hown (by rw [ha])
  have g2 := row_later hb2 g1
  have b2 := Lib.hid (b1.out.trans (hb2.mono b1.out.size))
  have hz2 := b2.out.size
  clear hown hA1 hA2 hcm hb2 g1 b1
  have h3c : w2.cell? ⟨w.heap.size, 3, none⟩ = some (.int .u32 place) := World.cell?_of_row g2.out 3 _ rfl
  have h4c : w2.cell? ⟨w.heap.size, 4, none⟩ = some (.int .u32 n) := World.cell?_of_row g2.out 4 _ rfl
  have hpl := hpl'.out
  have hr := hr'.out
  have CALL := Lib.hid (zzTexts_some w.heap.size place n off A1 l r len k1 w2 (by omega) hpl ho' hn' hN hb hc1 R1 hlt h3c h4c hr)
  clear hpl
  go_wp2_with fail
  refine CALL.out.mono ?_
  rintro e w3 ⟨⟨A3, c3, rfl, hc3, R3, -⟩, b3⟩
  have b4 := Lib.hid (b2.out.trans (b3.mono b2.out.size))
  clear b3 h3c h4c CALL
  have hrl : r.length ≤ 2147483647 := textsAt_le hr (by have := hN.out; omega)
  go_wp2_with fail
  refine (copied_any A3 r r.length c3 rfl hrl w3 R3.out).mono ?_
  rintro e w4 ⟨⟨v, rfl, hown⟩, b5⟩
  obtain ⟨-, A4, k4, rfl, R4, -, -, -, -⟩ := RB.of_owns hown
  have b6 := b4.out.trans (b5.mono b4.out.size)
  replace R4 := Lib.hid R4
  clear hown b5
  go_wp2
  go_ret2
  exact ⟨⟨_, _, rfl, R4⟩, b6⟩

set_option maxRecDepth 100000 in
set_option maxHeartbeats 1000000 in
theorem implTexts_none (place n off : Nat) (A : Option Addr) (l : List UInt8) (len c : Nat) (w : World) (TE TU : TypeId) (vE vU : Value) (hErr : Hid (ErrsAt w TE TU vE vU)) (h3 : 3 ≤ w.heap.size) (hpl : (place : Int) + 18 * (n : Int) = (off : Int)) (ho' : off ≤ 4294967295) (hn' : n ≤ 4294967295) (hN : Hid (len = l.length)) (hb : len ≤ 1048576) (hA : RB w A l) (hr : textsAt place off l = none) :
    Calls Tryd.prog 26 #[.int .u32 place, .int .u32 n, .slice A len c] w fun e w' => e = .returned (.tuple #[.slice none 0 0, .bool false]) ∧ Below w.heap.size w w' := by
  have g1 := Lib.hid (heap_alloc_new w (.cells #[.int .u16 0, .int .u16 0, .int .u32 0, .int .u32 place, .int .u32 n, .int .u16 0, .int .u16 0] 58))
  have b1 : Below w.heap.size w (w.alloc (.cells #[.int .u16 0, .int .u16 0, .int .u32 0, .int .u32 place, .int .u32 n, .int .u16 0, .int .u16 0] 58)) := (Below.refl _ _).alloc (Nat.le_refl _) _
  have A1 := Lib.hid (hA.later b1)
  replace b1 := Lib.hid b1
  have hpl' := Lib.hid hpl
  have hr' := Lib.hid hr
  clear hpl hr
  go_enter Tryd.func26, Tryd.ntmps26
  go_wp2_with fail
  refine (copied_any A l len c hN.out (by omega) _ A1.out).mono ?_
  rintro e w2 ⟨⟨v, rfl, hown⟩, hb2⟩
  clear A1
  obtain ⟨-, A1, k1, rfl, R1, hc1, hcm, hA1, hA2⟩ := RB.of_owns hown
  replace R1 := Lib.hid R1
  have hlt := fun (a : Addr) (ha : A1 = some a) => owned_lt hown (by rw [ha])
  have g2 := row_later hb2 g1
  have b2 := Lib.hid (b1.out.trans (hb2.mono b1.out.size))
  have hz2 := b2.out.size
  clear hown hA1 hA2 hcm hb2 g1 b1
  have h3c : w2.cell? ⟨w.heap.size, 3, none⟩ = some (.int .u32 place) := World.cell?_of_row g2.out 3 _ rfl
  have h4c : w2.cell? ⟨w.heap.size, 4, none⟩ = some (.int .u32 n) := World.cell?_of_row g2.out 4 _ rfl
  have E2 := Lib.hid (hErr.out.chg (Chg.of_below (S := fun k => w.heap.size ≤ k) b2.out (fun k _ h => h)) (by omega) (by omega))
  have hpl := hpl'.out
  have hr := hr'.out
  have CALL := Lib.hid (zzTexts_none w.heap.size place n off A1 l len k1 w2 TE TU vE vU E2 (by omega) hpl ho' hn' hN hb hc1 R1 hlt h3c h4c hr)
  clear hpl
  go_wp2_with fail
  refine CALL.out.mono ?_
  rintro e w3 ⟨⟨T, v, rfl⟩, b3⟩
  have b4 := Lib.hid (b2.out.trans (b3.mono b2.out.size))
  clear b3 h3c h4c CALL
  go_wp2
  go_ret2
  exact ⟨rfl, b4.out⟩
end Go.Proofs.YthnlimhpnonnmaaDoorRRR
