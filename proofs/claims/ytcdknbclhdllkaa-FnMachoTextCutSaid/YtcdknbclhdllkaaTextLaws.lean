/-
  The laws on texts: what they come to.
-/
import Derived.Test.YtcdknbclhdllkaaText
namespace Go.Proofs.Ytcdknbclhdllkaa
open Go Go.RowKit

set_option maxHeartbeats 400000 in
theorem law_FnMachoText (a0 : Option Addr) (len0 cap0 : Nat) (z0 : List Int) (w : World) (w0 : IsRow .u8 w a0 len0 cap0 z0) :
    Calls Try.prog 3 #[.slice a0 len0 cap0] w fun e w' => e = .returned (.bool true) ∧ Below w.heap.size w w' := by
  obtain ⟨l, hl, hr, hc, hm⟩ := w0.bytes
  have hN := Lib.hid hl
  clear hl w0
  by_cases hb : len0 ≤ 1048576
  · go_enter Try.func3, Try.ntmps3
    go_wp2_with fail
    refine (implText_any a0 l len0 cap0 hN.out (by omega) w hr).mono ?_
    rintro e w1 ⟨rfl, hb1⟩
    have hr1 := hr.later hb1
    go_wp2_with fail
    refine (specText_any a0 l len0 cap0 hN.out hc (by omega) w1 hr1).mono ?_
    rintro e w' ⟨rfl, rfl⟩
    go_wp2
    go_ret
    exact ⟨by simp, hb1⟩
  · go_enter Try.func3, Try.ntmps3
    go_wp2
    all_goals (go_ret; exact ⟨rfl, Below.refl _ _⟩)

theorem text_nought (l r : List UInt8) : text (l ++ 0 :: r) = text l := by
  unfold text
  rw [List.takeWhile_append]
  split
  · rename_i h
    have := (List.takeWhile_prefix (fun x : UInt8 => x != 0) (l := l)).eq_of_length h
    simp [this]
  · rfl

set_option maxHeartbeats 1000000 in
theorem law_FnMachoTextCut (a0 : Option Addr) (len0 cap0 : Nat) (z0 : List Int) (a1 : Option Addr) (len1 cap1 : Nat) (z1 : List Int) (w : World) (w0 : IsRow .u8 w a0 len0 cap0 z0) (w1 : IsRow .u8 w a1 len1 cap1 z1) :
    Calls Try.prog 4 #[.slice a0 len0 cap0, .slice a1 len1 cap1] w fun e w' => e = .returned (.bool true) ∧ Below w.heap.size w w' := by
  obtain ⟨l, hl, hr, hc, hm⟩ := w0.bytes
  obtain ⟨r, hl', hr', hc', hm'⟩ := w1.bytes
  have hN := Lib.hid hl
  have hN' := Lib.hid hl'
  clear hl w0 hl' w1
  by_cases hb : len0 ≤ 1048576 ∧ len1 ≤ 1048576
  · obtain ⟨hb, hb'⟩ := hb
    have g1 : decide ((2147483647 : Int) < (len0 : Int)) = false := by simp; omega
    have g2 : decide ((2147483647 : Int) < (len1 : Int)) = false := by simp; omega
    have g3 : decide ((1048576 : Int) < (len0 : Int)) = false := by simp; omega
    have g4 : decide ((1048576 : Int) < (len1 : Int)) = false := by simp; omega
    go_enter Try.func4, Try.ntmps4
    go_wp2_with (at_builtin; refine Stop.mk ?_)
    refine Stop.go ?_
    -- the first text
    refine wpList_append_bytes Try.underlying22 Try.infoByte rfl (.tmp 22) (.tmp 23) rfl w.heap.size (.slice (some ⟨w.heap.size, 0, none⟩) 0 0) 0 [] rfl (owns_new _ (Nat.le_refl _)) a0 len0 cap0 l rfl hN.out (hr.later ((Below.refl _ _).alloc (Nat.le_refl _) _)) (by omega) (by simp) ?_
    intro v1 w1 hown1 hg1 hat1
    have hb1 : Below w.heap.size w w1 := ((Below.refl _ _).alloc (Nat.le_refl _) _).grown hg1 (by simp) (by simp [Value.ownBlock])
    have hz1 := hb1.size
    simp only [Nat.zero_add, List.nil_append] at hown1
    clear hg1 hat1
    go_wp2_with (at_builtin; refine Stop.mk ?_)
    refine Stop.go ?_
    refine wpList_append_bytes Try.underlying22 Try.infoByte rfl (.tmp 24) (.tmp 25) rfl w.heap.size v1 len0 l rfl (hown1.alloc _) (some ⟨w1.heap.size, 0, none⟩) 1 1 [0] rfl rfl (RB.new1 w1 0 _) (by omega) (by simp; omega) ?_
    intro v2 w2 hown2 hg2 hat2
    have hb2 : Below w.heap.size w w2 := (hb1.alloc hz1 _).grown hg2 (by simp; omega) (fun k hk => (hown1.lt k hk).1)
    have hz2 := hb2.size
    clear hg2 hat2 hown1 hb1 hz1
    obtain ⟨hl2, A2, c2, rfl, hr2, hc2, _, _, _⟩ := RB.of_owns hown2
    have hN2 := Lib.hid hl2
    clear hl2 hown2
    go_wp2_with fail
    refine (implText_any A2 _ _ c2 hN2.out (by omega) w2 hr2).mono ?_
    rintro e w3 ⟨rfl, hb3⟩
    have hb3 : Below w.heap.size w w3 := hb2.trans (hb3.mono hz2)
    have hz3 := hb3.size
    rw [text_nought]
    clear hr2 hc2 hN2 hb2 hz2
    -- the second one
    go_wp2_with (at_builtin; refine Stop.mk ?_)
    refine Stop.go ?_
    have hb3a : Below w.heap.size w (w3.alloc (.cells #[] 5)) := hb3.alloc hz3 _
    refine wpList_append_bytes Try.underlying22 Try.infoByte rfl (.tmp 29) (.tmp 30) rfl w.heap.size (.slice (some ⟨w3.heap.size, 0, none⟩) 0 0) 0 [] rfl (owns_new _ hz3) a0 len0 cap0 l rfl hN.out (hr.later hb3a) (by omega) (by simp; omega) ?_
    intro v4 w4 hown4 hg4 hat4
    have hb4 : Below w.heap.size w w4 := hb3a.grown hg4 (by simp; omega) (by simp [Value.ownBlock]; omega)
    have hz4 := hb4.size
    simp only [Nat.zero_add, List.nil_append] at hown4
    clear hg4 hat4 hb3a
    go_wp2_with (at_builtin; refine Stop.mk ?_)
    refine Stop.go ?_
    refine wpList_append_bytes Try.underlying22 Try.infoByte rfl (.tmp 31) (.tmp 32) rfl w.heap.size v4 len0 l rfl (hown4.alloc _) (some ⟨w4.heap.size, 0, none⟩) 1 1 [0] rfl rfl (RB.new1 w4 0 _) (by omega) (by simp; omega) ?_
    intro v5 w5 hown5 hg5 hat5
    have hb5 : Below w.heap.size w w5 := (hb4.alloc hz4 _).grown hg5 (by simp; omega) (fun k hk => (hown4.lt k hk).1)
    have hz5 := hb5.size
    clear hg5 hat5 hown4 hb4 hz4
    go_wp2_with (at_builtin; refine Stop.mk ?_)
    refine Stop.go ?_
    refine wpList_append_bytes Try.underlying22 Try.infoByte rfl (.tmp 33) (.tmp 34) rfl w.heap.size v5 (len0 + 1) (l ++ [0]) rfl hown5 a1 len1 cap1 r rfl hN'.out (hr'.later hb5) (by omega) hz5 ?_
    intro v6 w6 hown6 hg6 hat6
    have hb6 : Below w.heap.size w w6 := hb5.grown hg6 hz5 (fun k hk => (hown5.lt k hk).1)
    have hz6 := hb6.size
    clear hg6 hat6 hown5 hb5 hz5
    obtain ⟨hl6, A6, c6, rfl, hr6, hc6, _, _, _⟩ := RB.of_owns hown6
    have hN6 := Lib.hid hl6
    clear hl6 hown6
    go_wp2_with fail
    refine (implText_any A6 _ _ c6 hN6.out (by omega) w6 hr6).mono ?_
    rintro e w7 ⟨rfl, hb7⟩
    have hb7 : Below w.heap.size w w7 := hb6.trans (hb7.mono hz6)
    have hz7 := hb7.size
    rw [List.append_assoc, List.singleton_append, text_nought]
    clear hr6 hc6 hN6 hb6 hz6
    -- the rest of the answer
    have hle := text_le l
    rw [← hN.out] at hle
    go_wp2_with fail
    refine (implText_any (some ⟨w7.heap.size, 0, none⟩) [65] 1 1 rfl (by omega) _ (RB.new1 w7 65 _)).mono ?_
    rintro e w8 ⟨rfl, hb8⟩
    have hb8 : Below w.heap.size w w8 := (hb7.alloc hz7 _).trans (hb8.mono (by simp; omega))
    rw [show text [65] = [65] from rfl]
    go_wp2
    go_ret
    exact ⟨by simp, hb8⟩
  · go_enter Try.func4, Try.ntmps4
    go_wp2
    all_goals (go_ret; exact ⟨rfl, Below.refl _ _⟩)
end Go.Proofs.Ytcdknbclhdllkaa
