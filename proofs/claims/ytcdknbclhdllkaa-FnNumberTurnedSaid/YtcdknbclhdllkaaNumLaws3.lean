/-
  The law on numbers turned: what it comes to.
-/
import Derived.Test.YtcdknbclhdllkaaNumLaws
namespace Go.Proofs.Ytcdknbclhdllkaa
open Go Go.RowKit

theorem num_reverse (big : Bool) (l : List UInt8) : num (!big) l.reverse = num big l := by
  cases big
  · show Lib.beNat _ = Lib.leNat _
    rw [Lib.beNat_eq, List.reverse_reverse]
  · show Lib.leNat _ = Lib.beNat _
    rw [Lib.beNat_eq]
theorem rev_snoc (l : List UInt8) (W k : Nat) (hW : W ≤ l.length) (hk : k < W) : ((l.take W).reverse).take (k + 1) = ((l.take W).reverse).take k ++ [l[W - 1 - k]'(by omega)] := by
  have hlen : (l.take W).length = W := by simp; omega
  rw [List.take_succ_eq_append_getElem (by simp; omega)]
  congr 2
  rw [List.getElem_reverse]
  simp only [List.getElem_take, hlen]

set_option maxHeartbeats 2000000 in
theorem numberTurned2 (a0 : Bool) (a1 : Int) (h3 : a1 % 3 = 0) (k0 : 0 ≤ a1) (k1 : a1 ≤ 255) (A : Option Addr) (l : List UInt8) (n c : Nat) (hN : Hid (n = l.length)) (hb : n ≤ 1048576) (hW : 2 ≤ n) (w : World) (hr : RB w A l) :
    Calls Try.prog 7 #[.bool a0, .int .u8 a1, .slice A n c] w fun e w' => e = .returned (.bool true) ∧ Below w.heap.size w w' := by
  have hWl : 2 ≤ l.length := by rw [← hN.out]; exact hW
  obtain ⟨b, o, rfl⟩ := hr.addr (by omega)
  have hbl := hr.lt (by omega)
  have g1 : decide ((n : Int) < 2) = false := by simp; omega
  go_enter Try.func7, Try.ntmps7
  go_wp2
  clear h3
  go_loopw [8, 9, 27] (fun u _ i wr => ∃ k : Nat, k ≤ 2 ∧ i = .int .i64 k ∧ wr.ownsRow w.heap.size 5 1 u k ((((l.take 2).reverse).take k).map bv) ∧ Below w.heap.size w wr) (fun _ _ i _ => 2 - (intOf i).toNat)
  case atStart => exact ⟨0, Nat.zero_le _, rfl, by simpa using owns_new (w := w.alloc _) (base := w.heap.size) 5 (by simp), ((Below.refl _ _).alloc (Nat.le_refl _) _).alloc (by simp) _⟩
  case round =>
    obtain ⟨k, hk, rfl, hown, hbw⟩ := hrel
    have hz := hbw.size
    by_cases hkW : k < 2
    · have hki : 1 - k < l.length := by omega
      have hcell : wr.cell? ⟨b, o + (1 - k), none⟩ = some (.int .u8 ((l[1 - k]).toNat : Int)) := (hbw.cell (p := ⟨b, _, none⟩) hbl).trans (hr.at hki)
      have i0 : (0 : Int) ≤ 1 - (k : Int) := by omega
      have i1 : (1 : Int) - (k : Int) < n := by omega
      have e1 := Lib.hid (rev_snoc l 2 k hWl hkW)
      go_wp2_with (at_builtin; refine Stop.mk ?_)
      refine Stop.go ?_
      refine wpList_append_bytes Try.underlying22 Try.infoByte rfl (.tmp 30) (.tmp 38) rfl w.heap.size _ k _ rfl (hown.alloc _) (some ⟨wr.heap.size, 0, none⟩) 1 1 [l[1 - k]] rfl rfl (RB.new1 wr _ _) (by omega) (by simp; omega) ?_
      intro v1 w1 hown1 hg1 hat1
      have hb1 : Below w.heap.size w w1 := (hbw.alloc hz _).grown hg1 (by simp; omega) (fun j hj => (hown.lt j hj).1)
      rw [← e1.out] at hown1
      clear hg1 hat1 hown hbw e1 hcell
      go_wp2
      go_roundw
      case rel => first | exact ⟨k + 1, by omega, by go_num, hown1, hb1⟩ | ((repeat apply Exists.intro); exact ⟨⟨k + 1, by omega, by go_num, hown1, hb1⟩, rfl⟩)
      case measure => simp [intOf]; omega
    · obtain rfl : k = 2 := by omega
      have hlen : ((l.take 2).reverse).length = 2 := by simp; omega
      rw [List.take_of_length_le (by omega)] at hown
      clear hlen
      obtain ⟨hl1, A1, c1, rfl, hr1, hc1, _, _, _⟩ := RB.of_owns hown
      have hN1 := Lib.hid hl1
      clear hl1 hown
      have E := Lib.hid (show num (!a0) (((l.take 2).reverse).take 2) = num a0 (l.take 2) by rw [List.take_of_length_le (by simp; omega), num_reverse])
      go_wp2_with fail
      refine (implNumber2 a0 (some ⟨b, o, none⟩) l n c hN.out hW (by omega) wr (hr.later hbw)).mono ?_
      rintro e w1 ⟨rfl, hb1⟩
      have hr2 := hr1.later hb1
      have hb2 : Below w.heap.size w w1 := hbw.trans (hb1.mono hz)
      have hz2 := hb2.size
      clear hb1 hr1 hbw hz
      go_wp2_with fail
      refine (implNumber2 (!a0) A1 _ 2 c1 hN1.out (by omega) (by omega) w1 hr2).mono ?_
      rintro e w2 ⟨rfl, hb1⟩
      have hb3 : Below w.heap.size w w2 := hb2.trans (hb1.mono hz2)
      have hz3 := hb3.size
      clear hb1 hr2 hb2 hz2
      rw [E.out]
      go_wp2_with fail
      refine (implNumber2 a0 (some ⟨w2.heap.size, 0, none⟩) [1, 1] 2 2 rfl (by omega) (by omega) _ ?_).mono ?_
      · exact .inr ⟨_, _, rfl, fun i hi => by
          have hi' : i = 0 ∨ i = 1 := by simp at hi; omega
          rcases hi' with rfl | rfl <;> simp⟩
      rintro e w4 ⟨rfl, hb4⟩
      have hb4 : Below w.heap.size w w4 := (hb3.alloc hz3 _).trans (hb4.mono (by simp; omega))
      rw [show num a0 (List.take 2 [1, 1]) = 257 by cases a0 <;> rfl]
      go_wp2
      go_ret
      exact ⟨rfl, hb4⟩

set_option maxHeartbeats 2000000 in
theorem numberTurned4 (a0 : Bool) (a1 : Int) (h3 : a1 % 3 = 1) (k0 : 0 ≤ a1) (k1 : a1 ≤ 255) (A : Option Addr) (l : List UInt8) (n c : Nat) (hN : Hid (n = l.length)) (hb : n ≤ 1048576) (hW : 4 ≤ n) (w : World) (hr : RB w A l) :
    Calls Try.prog 7 #[.bool a0, .int .u8 a1, .slice A n c] w fun e w' => e = .returned (.bool true) ∧ Below w.heap.size w w' := by
  have hWl : 4 ≤ l.length := by rw [← hN.out]; exact hW
  obtain ⟨b, o, rfl⟩ := hr.addr (by omega)
  have hbl := hr.lt (by omega)
  have g1 : decide ((n : Int) < 4) = false := by simp; omega
  go_enter Try.func7, Try.ntmps7
  go_wp2
  clear h3
  go_loopw [8, 9, 27] (fun u _ i wr => ∃ k : Nat, k ≤ 4 ∧ i = .int .i64 k ∧ wr.ownsRow w.heap.size 5 1 u k ((((l.take 4).reverse).take k).map bv) ∧ Below w.heap.size w wr) (fun _ _ i _ => 4 - (intOf i).toNat)
  case atStart => exact ⟨0, Nat.zero_le _, rfl, by simpa using owns_new (w := w.alloc _) (base := w.heap.size) 5 (by simp), ((Below.refl _ _).alloc (Nat.le_refl _) _).alloc (by simp) _⟩
  case round =>
    obtain ⟨k, hk, rfl, hown, hbw⟩ := hrel
    have hz := hbw.size
    by_cases hkW : k < 4
    · have hki : 3 - k < l.length := by omega
      have hcell : wr.cell? ⟨b, o + (3 - k), none⟩ = some (.int .u8 ((l[3 - k]).toNat : Int)) := (hbw.cell (p := ⟨b, _, none⟩) hbl).trans (hr.at hki)
      have i0 : (0 : Int) ≤ 3 - (k : Int) := by omega
      have i1 : (3 : Int) - (k : Int) < n := by omega
      have e1 := Lib.hid (rev_snoc l 4 k hWl hkW)
      go_wp2_with (at_builtin; refine Stop.mk ?_)
      refine Stop.go ?_
      refine wpList_append_bytes Try.underlying22 Try.infoByte rfl (.tmp 30) (.tmp 38) rfl w.heap.size _ k _ rfl (hown.alloc _) (some ⟨wr.heap.size, 0, none⟩) 1 1 [l[3 - k]] rfl rfl (RB.new1 wr _ _) (by omega) (by simp; omega) ?_
      intro v1 w1 hown1 hg1 hat1
      have hb1 : Below w.heap.size w w1 := (hbw.alloc hz _).grown hg1 (by simp; omega) (fun j hj => (hown.lt j hj).1)
      rw [← e1.out] at hown1
      clear hg1 hat1 hown hbw e1 hcell
      go_wp2
      go_roundw
      case rel => first | exact ⟨k + 1, by omega, by go_num, hown1, hb1⟩ | ((repeat apply Exists.intro); exact ⟨⟨k + 1, by omega, by go_num, hown1, hb1⟩, rfl⟩)
      case measure => simp [intOf]; omega
    · obtain rfl : k = 4 := by omega
      have hlen : ((l.take 4).reverse).length = 4 := by simp; omega
      rw [List.take_of_length_le (by omega)] at hown
      clear hlen
      obtain ⟨hl1, A1, c1, rfl, hr1, hc1, _, _, _⟩ := RB.of_owns hown
      have hN1 := Lib.hid hl1
      clear hl1 hown
      have E := Lib.hid (show num (!a0) (((l.take 4).reverse).take 4) = num a0 (l.take 4) by rw [List.take_of_length_le (by simp; omega), num_reverse])
      go_wp2_with fail
      refine (implNumber4 a0 (some ⟨b, o, none⟩) l n c hN.out hW (by omega) wr (hr.later hbw)).mono ?_
      rintro e w1 ⟨rfl, hb1⟩
      have hr2 := hr1.later hb1
      have hb2 : Below w.heap.size w w1 := hbw.trans (hb1.mono hz)
      have hz2 := hb2.size
      clear hb1 hr1 hbw hz
      go_wp2_with fail
      refine (implNumber4 (!a0) A1 _ 4 c1 hN1.out (by omega) (by omega) w1 hr2).mono ?_
      rintro e w2 ⟨rfl, hb1⟩
      have hb3 : Below w.heap.size w w2 := hb2.trans (hb1.mono hz2)
      have hz3 := hb3.size
      clear hb1 hr2 hb2 hz2
      rw [E.out]
      go_wp2_with fail
      refine (implNumber2 a0 (some ⟨w2.heap.size, 0, none⟩) [1, 1] 2 2 rfl (by omega) (by omega) _ ?_).mono ?_
      · exact .inr ⟨_, _, rfl, fun i hi => by
          have hi' : i = 0 ∨ i = 1 := by simp at hi; omega
          rcases hi' with rfl | rfl <;> simp⟩
      rintro e w4 ⟨rfl, hb4⟩
      have hb4 : Below w.heap.size w w4 := (hb3.alloc hz3 _).trans (hb4.mono (by simp; omega))
      rw [show num a0 (List.take 2 [1, 1]) = 257 by cases a0 <;> rfl]
      go_wp2
      go_ret
      exact ⟨rfl, hb4⟩

set_option maxHeartbeats 2000000 in
theorem numberTurned8 (a0 : Bool) (a1 : Int) (h3 : a1 % 3 = 2) (k0 : 0 ≤ a1) (k1 : a1 ≤ 255) (A : Option Addr) (l : List UInt8) (n c : Nat) (hN : Hid (n = l.length)) (hb : n ≤ 1048576) (hW : 8 ≤ n) (w : World) (hr : RB w A l) :
    Calls Try.prog 7 #[.bool a0, .int .u8 a1, .slice A n c] w fun e w' => e = .returned (.bool true) ∧ Below w.heap.size w w' := by
  have hWl : 8 ≤ l.length := by rw [← hN.out]; exact hW
  obtain ⟨b, o, rfl⟩ := hr.addr (by omega)
  have hbl := hr.lt (by omega)
  have g1 : decide ((n : Int) < 8) = false := by simp; omega
  go_enter Try.func7, Try.ntmps7
  go_wp2
  clear h3
  go_loopw [8, 9, 27] (fun u _ i wr => ∃ k : Nat, k ≤ 8 ∧ i = .int .i64 k ∧ wr.ownsRow w.heap.size 5 1 u k ((((l.take 8).reverse).take k).map bv) ∧ Below w.heap.size w wr) (fun _ _ i _ => 8 - (intOf i).toNat)
  case atStart => exact ⟨0, Nat.zero_le _, rfl, by simpa using owns_new (w := w.alloc _) (base := w.heap.size) 5 (by simp), ((Below.refl _ _).alloc (Nat.le_refl _) _).alloc (by simp) _⟩
  case round =>
    obtain ⟨k, hk, rfl, hown, hbw⟩ := hrel
    have hz := hbw.size
    by_cases hkW : k < 8
    · have hki : 7 - k < l.length := by omega
      have hcell : wr.cell? ⟨b, o + (7 - k), none⟩ = some (.int .u8 ((l[7 - k]).toNat : Int)) := (hbw.cell (p := ⟨b, _, none⟩) hbl).trans (hr.at hki)
      have i0 : (0 : Int) ≤ 7 - (k : Int) := by omega
      have i1 : (7 : Int) - (k : Int) < n := by omega
      have e1 := Lib.hid (rev_snoc l 8 k hWl hkW)
      go_wp2_with (at_builtin; refine Stop.mk ?_)
      refine Stop.go ?_
      refine wpList_append_bytes Try.underlying22 Try.infoByte rfl (.tmp 30) (.tmp 38) rfl w.heap.size _ k _ rfl (hown.alloc _) (some ⟨wr.heap.size, 0, none⟩) 1 1 [l[7 - k]] rfl rfl (RB.new1 wr _ _) (by omega) (by simp; omega) ?_
      intro v1 w1 hown1 hg1 hat1
      have hb1 : Below w.heap.size w w1 := (hbw.alloc hz _).grown hg1 (by simp; omega) (fun j hj => (hown.lt j hj).1)
      rw [← e1.out] at hown1
      clear hg1 hat1 hown hbw e1 hcell
      go_wp2
      go_roundw
      case rel => first | exact ⟨k + 1, by omega, by go_num, hown1, hb1⟩ | ((repeat apply Exists.intro); exact ⟨⟨k + 1, by omega, by go_num, hown1, hb1⟩, rfl⟩)
      case measure => simp [intOf]; omega
    · obtain rfl : k = 8 := by omega
      have hlen : ((l.take 8).reverse).length = 8 := by simp; omega
      rw [List.take_of_length_le (by omega)] at hown
      clear hlen
      obtain ⟨hl1, A1, c1, rfl, hr1, hc1, _, _, _⟩ := RB.of_owns hown
      have hN1 := Lib.hid hl1
      clear hl1 hown
      have E := Lib.hid (show num (!a0) (((l.take 8).reverse).take 8) = num a0 (l.take 8) by rw [List.take_of_length_le (by simp; omega), num_reverse])
      go_wp2_with fail
      refine (implNumber8 a0 (some ⟨b, o, none⟩) l n c hN.out hW (by omega) wr (hr.later hbw)).mono ?_
      rintro e w1 ⟨rfl, hb1⟩
      have hr2 := hr1.later hb1
      have hb2 : Below w.heap.size w w1 := hbw.trans (hb1.mono hz)
      have hz2 := hb2.size
      clear hb1 hr1 hbw hz
      go_wp2_with fail
      refine (implNumber8 (!a0) A1 _ 8 c1 hN1.out (by omega) (by omega) w1 hr2).mono ?_
      rintro e w2 ⟨rfl, hb1⟩
      have hb3 : Below w.heap.size w w2 := hb2.trans (hb1.mono hz2)
      have hz3 := hb3.size
      clear hb1 hr2 hb2 hz2
      rw [E.out]
      go_wp2_with fail
      refine (implNumber2 a0 (some ⟨w2.heap.size, 0, none⟩) [1, 1] 2 2 rfl (by omega) (by omega) _ ?_).mono ?_
      · exact .inr ⟨_, _, rfl, fun i hi => by
          have hi' : i = 0 ∨ i = 1 := by simp at hi; omega
          rcases hi' with rfl | rfl <;> simp⟩
      rintro e w4 ⟨rfl, hb4⟩
      have hb4 : Below w.heap.size w w4 := (hb3.alloc hz3 _).trans (hb4.mono (by simp; omega))
      rw [show num a0 (List.take 2 [1, 1]) = 257 by cases a0 <;> rfl]
      go_wp2
      go_ret
      exact ⟨rfl, hb4⟩

set_option maxHeartbeats 1000000 in
theorem law_FnNumberTurned (a0 : Bool) (a1 : Int) (a2 : Option Addr) (len2 cap2 : Nat) (z2 : List Int) (w : World) (w1 : (Lit.int .u8 a1).wf = true) (w2 : IsRow .u8 w a2 len2 cap2 z2) :
    Calls Try.prog 7 #[.bool a0, .int .u8 a1, .slice a2 len2 cap2] w fun e w' => e = .returned (.bool true) ∧ Below w.heap.size w w' := by
  obtain ⟨l, hl, hr, hc, hm⟩ := w2.bytes
  obtain ⟨k0, k1⟩ := bounds_u8 w1
  have hN := Lib.hid hl
  clear hl w2 w1
  by_cases hb : len2 ≤ 1048576
  · rcases three a1 k0 with h3 | h3 | h3
    · by_cases hW : 2 ≤ len2
      · exact numberTurned2 a0 a1 h3 k0 k1 a2 l len2 cap2 hN hb hW w hr
      · have g1 : decide ((len2 : Int) < 2) = true := by simp; omega
        go_enter Try.func7, Try.ntmps7
        go_wp2
        go_ret
        exact ⟨rfl, (Below.refl _ _).alloc (Nat.le_refl _) _⟩
    · by_cases hW : 4 ≤ len2
      · exact numberTurned4 a0 a1 h3 k0 k1 a2 l len2 cap2 hN hb hW w hr
      · have g1 : decide ((len2 : Int) < 4) = true := by simp; omega
        go_enter Try.func7, Try.ntmps7
        go_wp2
        go_ret
        exact ⟨rfl, (Below.refl _ _).alloc (Nat.le_refl _) _⟩
    · by_cases hW : 8 ≤ len2
      · exact numberTurned8 a0 a1 h3 k0 k1 a2 l len2 cap2 hN hb hW w hr
      · have g1 : decide ((len2 : Int) < 8) = true := by simp; omega
        go_enter Try.func7, Try.ntmps7
        go_wp2
        go_ret
        exact ⟨rfl, (Below.refl _ _).alloc (Nat.le_refl _) _⟩
  · go_enter Try.func7, Try.ntmps7
    go_wp2
    all_goals (go_ret; exact ⟨rfl, Below.refl _ _⟩)
end Go.Proofs.Ytcdknbclhdllkaa
