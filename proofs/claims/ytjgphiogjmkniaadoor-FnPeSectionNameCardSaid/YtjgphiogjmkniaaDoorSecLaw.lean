/-
  The name of a section: the thin package's function, and the walk of the law FnPeSectionName.
-/
import Derived.Test.YtjgphiogjmkniaaDoorSecImpl
namespace Go.Proofs.YtjgphiogjmkniaaDoor
set_option linter.unusedVariables false
set_option linter.unusedSimpArgs false
open Go Go.RowKit
attribute [local go_sem ↓] Go.wp_at_zero Go.wp_at_succ

/-- The package and the reference tell the same. -/
theorem sec_same (y : UInt8) (r t : List UInt8) (hr : r.length = 7) (h2 : (secT (text (y :: r)) t).2 ≠ 2) :
    (∃ s, secName (y :: r) t = some s ∧ secT (text (y :: r)) t = (s, 0)) ∨ (secName (y :: r) t = none ∧ secT (text (y :: r)) t = ([], 1)) := by
  by_cases hy : y = 47
  · subst hy
    have ht : text (47 :: r) = 47 :: text r := text_tail 47 r (by decide)
    have hh : (text (47 :: r)).head? = some 47 := by rw [ht]; rfl
    have h1 : ¬ ((text (47 :: r))[1]? = some 43 ∨ (text (47 :: r))[1]? = some 45) := fun h => h2 (by rw [secT_open hh h])
    have hat := atoi_drop h1
    have hd : (text (47 :: r)).drop 1 = text r := by rw [ht]; rfl
    have hn : secName (47 :: r) t = match Lib.atoi (text r) with
      | none => none
      | some i => if strOk t.length (i % 4294967296).toNat then some (strAt t (i % 4294967296).toNat) else none := by
      unfold secName; rw [if_neg (by simp)]; rfl
    have hlen : (text (47 :: r)).length = (text r).length + 1 := by rw [ht]; rfl
    rw [hd] at hat
    cases hdf : Lib.decFrom 0 (text r) with
    | none =>
      have ha : Lib.atoi (text r) = none := by rw [hat, hdf]; split <;> rfl
      rw [ha] at hn
      exact .inr ⟨hn, secT_bad hh h1 (by rw [hd]; exact hdf)⟩
    | some m =>
      by_cases hz : (text r).length = 0
      · have ha : Lib.atoi (text r) = none := by rw [hat, if_pos (by omega)]
        rw [ha] at hn
        exact .inr ⟨hn, secT_short hh h1 m (by rw [hd]; exact hdf) (.inl (by omega))⟩
      · have ha : Lib.atoi (text r) = some (m : Int) := by rw [hat, if_neg (by omega), hdf]; rfl
        have hm : m < 10000000 := figs_lt hdf (by have := text_le r; omega)
        have hmm : (((m : Int) % 4294967296)).toNat = m := by omega
        rw [ha] at hn
        simp only [hmm] at hn
        cases hok : strOk t.length m with
        | true =>
          rw [hok] at hn
          exact .inl ⟨strAt t m, by simpa using hn, secT_good hh h1 m (by rw [hd]; exact hdf) (by omega) hok⟩
        | false =>
          rw [hok] at hn
          exact .inr ⟨by simpa using hn, secT_short hh h1 m (by rw [hd]; exact hdf) (.inr hok)⟩
  · have hh : (text (y :: r)).head? ≠ some 47 := by
      by_cases h0 : y = 0
      · subst h0; simp [text]
      · rw [text_tail y r h0]; simpa using hy
    refine .inl ⟨text (y :: r), ?_, secT_text hh⟩
    unfold secName
    rw [if_pos (by simpa using hy)]

set_option maxRecDepth 100000 in
set_option maxHeartbeats 1000000 in
theorem zzFullName_any (V : Nat) (y0 y1 y2 y3 y4 y5 y6 y7 : UInt8) (post : List Value) (TV : TypeId) (A : Option Addr) (t : List UInt8) (n c : Nat) (w : World) (hN : Hid (n = t.length)) (hc : n ≤ c) (hb : n ≤ 2147483647) (hT : RB w A t) (hE : Hid (ErrH w))
    (hV : Hid (w.heap[V]? = some (.cells (([y0, y1, y2, y3, y4, y5, y6, y7].map bv) ++ post).toArray TV (0, 0)))) :
    Calls Tryd.prog 8 #[.pointer (some ⟨V, 0, none⟩), .slice A n c] w (NamePost (secName [y0, y1, y2, y3, y4, y5, y6, y7] t) w) := by
  have H := Lib.hid (fullName_any V y0 y1 y2 y3 y4 y5 y6 y7 post TV A t n c w hN hc hb hT hE hV)
  clear hN hT hE hV
  go_enter Tryd.func8, Tryd.ntmps8
  go_wp2_with fail
  refine H.out.mono ?_
  rintro e w1 ⟨b1, ⟨s, hs, rfl⟩ | ⟨hs, T, v, rfl⟩⟩
  · replace hs := Lib.hid hs
    replace b1 := Lib.hid b1
    go_wp2
    go_ret2
    exact ⟨b1.out, .inl ⟨s, hs.out, rfl⟩⟩
  · replace hs := Lib.hid hs
    replace b1 := Lib.hid b1
    go_wp2
    go_ret2
    exact ⟨b1.out, .inr ⟨hs.out, T, v, rfl⟩⟩

theorem below_setRow' {B : Nat} {a w : World} (h : Below B a w) {g : Nat} (hg : B ≤ g) (cs : Array Value) : Below B a (w.setRow g cs) :=
  h.trans ⟨rfl, rfl, rfl, by simp, fun k hk => setRow_other w g k _ (by omega)⟩

/-- What the thin package tells of a name. -/
def SecPost (r : Option (List UInt8)) (w : World) (e : Ending) (w' : World) : Prop :=
  Below w.heap.size w w' ∧ ((∃ s, r = some s ∧ e = .returned (.tuple #[.string ⟨s.toArray⟩, .bool true])) ∨ (r = none ∧ e = .returned (.tuple #[.string ⟨#[]⟩, .bool false])))

set_option maxRecDepth 100000 in
set_option maxHeartbeats 1000000 in
theorem implSec8 (y0 y1 y2 y3 y4 y5 y6 y7 : UInt8) (b o k : Nat) (A : Option Addr) (t : List UInt8) (n c : Nat) (w : World) (hk : 8 ≤ k) (hNm : RB w (some ⟨b, o, none⟩) [y0, y1, y2, y3, y4, y5, y6, y7]) (hN : Hid (n = t.length)) (hb : n ≤ 2147483647) (hT : RB w A t) (hE : Hid (ErrH w)) :
    Calls Tryd.prog 5 #[.slice (some ⟨b, o, none⟩) 8 k, .slice A n c] w (SecPost (secName [y0, y1, y2, y3, y4, y5, y6, y7] t) w) := by
  have hinfo : (Tryd.prog.info? 34).map (·.size) = some 17 := by kernel_rfl
  replace hinfo := Lib.hid hinfo
  have hbl : b < w.heap.size := hNm.lt (by simp)
  have c0 : w.cell? ⟨b, o, none⟩ = some (.int .u8 (y0.toNat : Int)) := hNm.at (i := 0) (by simp)
  have c1 : w.cell? ⟨b, o + 1, none⟩ = some (.int .u8 (y1.toNat : Int)) := hNm.at (i := 1) (by simp)
  have c2 : w.cell? ⟨b, o + 2, none⟩ = some (.int .u8 (y2.toNat : Int)) := hNm.at (i := 2) (by simp)
  have c3 : w.cell? ⟨b, o + 3, none⟩ = some (.int .u8 (y3.toNat : Int)) := hNm.at (i := 3) (by simp)
  have c4 : w.cell? ⟨b, o + 4, none⟩ = some (.int .u8 (y4.toNat : Int)) := hNm.at (i := 4) (by simp)
  have c5 : w.cell? ⟨b, o + 5, none⟩ = some (.int .u8 (y5.toNat : Int)) := hNm.at (i := 5) (by simp)
  have c6 : w.cell? ⟨b, o + 6, none⟩ = some (.int .u8 (y6.toNat : Int)) := hNm.at (i := 6) (by simp)
  have c7 : w.cell? ⟨b, o + 7, none⟩ = some (.int .u8 (y7.toNat : Int)) := hNm.at (i := 7) (by simp)
  have hat : ∀ w, (Instr.arrayAt 31 (.slice (some ⟨b, o, none⟩) 8 k)).run Tryd.prog w = .ok (.pointer (some ⟨b, o, none⟩)) w := fun w => run_arrayAt w 31 5 8 _ 8 k Tryd.underlying31 (by omega)
  have g1 := Lib.hid (heap_alloc_new w (.cells #[.int .u8 0, .int .u8 0, .int .u8 0, .int .u8 0, .int .u8 0, .int .u8 0, .int .u8 0, .int .u8 0, .int .u32 0, .int .u32 0, .int .u32 0, .int .u32 0, .int .u32 0, .int .u32 0, .int .u16 0, .int .u16 0, .int .u32 0] 34))
  have b2 := Lib.hid (below_setRow' ((Below.refl _ w).alloc (Nat.le_refl _) (.cells #[.int .u8 0, .int .u8 0, .int .u8 0, .int .u8 0, .int .u8 0, .int .u8 0, .int .u8 0, .int .u8 0, .int .u32 0, .int .u32 0, .int .u32 0, .int .u32 0, .int .u32 0, .int .u32 0, .int .u16 0, .int .u16 0, .int .u32 0] 34)) (g := w.heap.size) (Nat.le_refl _) #[.int .u8 (y0.toNat : Int), .int .u8 (y1.toNat : Int), .int .u8 (y2.toNat : Int), .int .u8 (y3.toNat : Int), .int .u8 (y4.toNat : Int), .int .u8 (y5.toNat : Int), .int .u8 (y6.toNat : Int), .int .u8 (y7.toNat : Int), .int .u32 0, .int .u32 0, .int .u32 0, .int .u32 0, .int .u32 0, .int .u32 0, .int .u16 0, .int .u16 0, .int .u32 0])
  have g2 := Lib.hid ((congrArg (fun x : World => x.heap[w.heap.size]?) (World.setRow_alloc_new w #[.int .u8 0, .int .u8 0, .int .u8 0, .int .u8 0, .int .u8 0, .int .u8 0, .int .u8 0, .int .u8 0, .int .u32 0, .int .u32 0, .int .u32 0, .int .u32 0, .int .u32 0, .int .u32 0, .int .u16 0, .int .u16 0, .int .u32 0] #[.int .u8 (y0.toNat : Int), .int .u8 (y1.toNat : Int), .int .u8 (y2.toNat : Int), .int .u8 (y3.toNat : Int), .int .u8 (y4.toNat : Int), .int .u8 (y5.toNat : Int), .int .u8 (y6.toNat : Int), .int .u8 (y7.toNat : Int), .int .u32 0, .int .u32 0, .int .u32 0, .int .u32 0, .int .u32 0, .int .u32 0, .int .u16 0, .int .u16 0, .int .u32 0] 34)).trans (heap_alloc_new w _))
  have T2 := Lib.hid (hT.later b2.out)
  have E2 := Lib.hid (hE.out.later b2.out)
  go_enter Tryd.func5, Tryd.ntmps5
  go_wp2_with (refine wpList_store_row rfl 34 _ _ rfl w.heap.size 34 #[.int .u8 0, .int .u8 0, .int .u8 0, .int .u8 0, .int .u8 0, .int .u8 0, .int .u8 0, .int .u8 0, .int .u32 0, .int .u32 0, .int .u32 0, .int .u32 0, .int .u32 0, .int .u32 0, .int .u16 0, .int .u16 0, .int .u32 0] #[.int .u8 (y0.toNat : Int), .int .u8 (y1.toNat : Int), .int .u8 (y2.toNat : Int), .int .u8 (y3.toNat : Int), .int .u8 (y4.toNat : Int), .int .u8 (y5.toNat : Int), .int .u8 (y6.toNat : Int), .int .u8 (y7.toNat : Int), .int .u32 0, .int .u32 0, .int .u32 0, .int .u32 0, .int .u32 0, .int .u32 0, .int .u16 0, .int .u16 0, .int .u32 0] rfl rfl g1.out rfl hinfo.out (List.all_eq_true.1 rfl) ?_)
  generalize (w.alloc (.cells #[.int .u8 0, .int .u8 0, .int .u8 0, .int .u8 0, .int .u8 0, .int .u8 0, .int .u8 0, .int .u8 0, .int .u32 0, .int .u32 0, .int .u32 0, .int .u32 0, .int .u32 0, .int .u32 0, .int .u16 0, .int .u16 0, .int .u32 0] 34)).setRow w.heap.size #[.int .u8 (y0.toNat : Int), .int .u8 (y1.toNat : Int), .int .u8 (y2.toNat : Int), .int .u8 (y3.toNat : Int), .int .u8 (y4.toNat : Int), .int .u8 (y5.toNat : Int), .int .u8 (y6.toNat : Int), .int .u8 (y7.toNat : Int), .int .u32 0, .int .u32 0, .int .u32 0, .int .u32 0, .int .u32 0, .int .u32 0, .int .u16 0, .int .u16 0, .int .u32 0] = W2 at *
  clear g1 c0 c1 c2 c3 c4 c5 c6 c7 hat
  refine (copied_any A t n c hN.out hb _ T2.out).mono ?_
  rintro e w3 ⟨⟨v, rfl, hown⟩, b3⟩
  obtain ⟨-, A1, c1, rfl, R1, hc1, -, -, -⟩ := RB.of_owns hown
  have E3 := Lib.hid (E2.out.later b3)
  have g3 := Lib.hid ((b3.block w.heap.size (Array.getElem?_eq_some_iff.1 g2.out).1).trans g2.out)
  replace b3 := Lib.hid (b2.out.trans (b3.mono b2.out.size))
  have CALL := Lib.hid (zzFullName_any w.heap.size y0 y1 y2 y3 y4 y5 y6 y7 [.int .u32 0, .int .u32 0, .int .u32 0, .int .u32 0, .int .u32 0, .int .u32 0, .int .u16 0, .int .u16 0, .int .u32 0] 34 A1 t n c1 w3 hN hc1 hb R1 E3 g3)
  clear hown R1 g2 b2 T2 E2 E3 g3
  go_wp2_with fail
  refine CALL.out.mono ?_
  rintro e w5 ⟨b5, ⟨s, hs, rfl⟩ | ⟨hs, T, v, rfl⟩⟩
  all_goals
    have b6 := Lib.hid (b3.out.trans (b5.mono b3.out.size))
    replace hs := Lib.hid hs
    clear b5 b3 CALL
    go_wp2
    go_quiet (fail)
    go_wp2
    go_ret2
    first
      | exact ⟨below_drewN b6.out _, .inl ⟨_, hs.out, rfl⟩⟩
      | exact ⟨below_drewN b6.out _, .inr ⟨hs.out, rfl⟩⟩

theorem implSec (N : Option Addr) (k : Nat) (l : List UInt8) (A : Option Addr) (t : List UInt8) (n c : Nat) (w : World) (h8 : l.length = 8) (hk : 8 ≤ k) (hNm : RB w N l) (hN : Hid (n = t.length)) (hb : n ≤ 2147483647) (hT : RB w A t) (hE : Hid (ErrH w)) :
    Calls Tryd.prog 5 #[.slice N 8 k, .slice A n c] w (SecPost (secName l t) w) := by
  obtain ⟨y0, y1, y2, y3, y4, y5, y6, y7, rfl⟩ := name8 h8
  obtain ⟨b, o, rfl⟩ := hNm.addr (by simp)
  exact implSec8 y0 y1 y2 y3 y4 y5 y6 y7 b o k A t n c w hk hNm hN hb hT hE

set_option maxRecDepth 100000 in
set_option maxHeartbeats 1000000 in
theorem law_FnPeSectionName (a0 : Option Addr) (len0 cap0 : Nat) (z0 : List Int) (a1 : Option Addr) (len1 cap1 : Nat) (z1 : List Int) (w : World) (w0 : IsRow .u8 w a0 len0 cap0 z0) (w1 : IsRow .u8 w a1 len1 cap1 z1) (hE : Hid (ErrH w)) :
    Calls Tryd.prog 3 #[.slice a0 len0 cap0, .slice a1 len1 cap1] w fun e w' => e = .returned (.bool true) ∧ Below w.heap.size w w' := by
  obtain ⟨l, hl, hr, hc, hm⟩ := w0.bytes
  obtain ⟨t, ht, hrt, hct, hmt⟩ := w1.bytes
  have hN := Lib.hid hl
  have hT := Lib.hid ht
  clear hl ht w0 w1 hm hmt
  by_cases hA : len0 ≤ 1048576 ∧ len1 ≤ 1048576
  · obtain ⟨ha, hb⟩ := hA
    by_cases h8 : len0 = 8
    · subst h8
      have H := Lib.hid (implSec a0 cap0 l a1 t len1 cap1 w hN.out.symm hc hr hT (by omega) hrt hE)
      have S := Lib.hid (specSec a0 cap0 l a1 t len1 cap1 w hN.out hc hr hT hct (by omega) hrt)
      by_cases h2 : (secT (text l) t).2 = 2
      · rw [h2] at S
        have hb2 : Hid (∀ x : Nat, x = 2 → (((x : Nat) : Int) == 2) = true) := Lib.hid (fun x hx => by rw [hx]; rfl)
        generalize (secT (text l) t).1 = s at *
        go_enter Tryd.func3, Tryd.ntmps3
        go_wp2_with fail
        refine S.out.mono ?_
        rintro e w' ⟨rfl, rfl⟩
        go_wp2
        go_ret
        exact ⟨rfl, Below.refl _ _⟩
      · have K : (∃ s, secName l t = some s ∧ secT (text l) t = (s, 0)) ∨ (secName l t = none ∧ secT (text l) t = ([], 1)) := by
          obtain ⟨y, r, rfl⟩ : ∃ y r, l = y :: r := by
            cases l with
            | nil => simp [Hid] at hN
            | cons y r => exact ⟨y, r, rfl⟩
          exact sec_same y r t (by have := hN.out; simp at this; omega) h2
        rcases K with ⟨s, hs, hq⟩ | ⟨hs, hq⟩
        · rw [hq] at S
          rw [hs] at H
          clear h2 hq hs
          go_enter Tryd.func3, Tryd.ntmps3
          go_wp2_with fail
          refine S.out.mono ?_
          rintro e w' ⟨rfl, rfl⟩
          go_wp2_with fail
          refine H.out.mono ?_
          rintro e w1 ⟨b1, ⟨s', hs', rfl⟩ | ⟨hs', rfl⟩⟩
          · obtain rfl := Option.some.inj hs'
            replace b1 := Lib.hid b1
            go_wp2
            go_ret
            exact ⟨rfl, b1.out⟩
          · cases hs'
        · rw [hq] at S
          rw [hs] at H
          clear h2 hq hs
          go_enter Tryd.func3, Tryd.ntmps3
          go_wp2_with fail
          refine S.out.mono ?_
          rintro e w' ⟨rfl, rfl⟩
          go_wp2_with fail
          refine H.out.mono ?_
          rintro e w1 ⟨b1, ⟨s', hs', rfl⟩ | ⟨hs', rfl⟩⟩
          · cases hs'
          · replace b1 := Lib.hid b1
            go_wp2
            go_ret
            exact ⟨rfl, b1.out⟩
    · have h8' : ((len0 : Int) != 8) = true := by rw [bne_iff_ne]; omega
      go_enter Tryd.func3, Tryd.ntmps3
      go_wp2
      go_ret
      exact ⟨rfl, Below.refl _ _⟩
  · by_cases h1 : len0 ≤ 2147483647
    · by_cases h2 : len1 ≤ 2147483647
      · by_cases h3 : len0 ≤ 1048576
        · have h4 : Hid (1048576 < len1) := Lib.hid (by omega)
          have h5 : (1048576 : Int) < (len1 : Int) := by have := h4.out; omega
          go_enter Tryd.func3, Tryd.ntmps3
          go_wp2
          go_ret
          exact ⟨rfl, Below.refl _ _⟩
        · have h5 : (1048576 : Int) < (len0 : Int) := by omega
          go_enter Tryd.func3, Tryd.ntmps3
          go_wp2
          go_ret
          exact ⟨rfl, Below.refl _ _⟩
      · have h5 : (2147483647 : Int) < (len1 : Int) := by omega
        go_enter Tryd.func3, Tryd.ntmps3
        go_wp2
        go_ret
        exact ⟨rfl, Below.refl _ _⟩
    · have h5 : (2147483647 : Int) < (len0 : Int) := by omega
      go_enter Tryd.func3, Tryd.ntmps3
      go_wp2
      go_ret
      exact ⟨rfl, Below.refl _ _⟩
end Go.Proofs.YtjgphiogjmkniaaDoor
