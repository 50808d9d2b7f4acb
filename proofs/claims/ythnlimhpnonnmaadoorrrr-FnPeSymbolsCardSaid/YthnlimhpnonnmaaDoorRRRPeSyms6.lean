/-
  Whether the table's auxiliary records are all there: the contract of Whole.
-/
import Derived.Test.YthnlimhpnonnmaaDoorRRRPeSyms4
namespace Go.Proofs.YthnlimhpnonnmaaDoorRRR
set_option linter.unusedVariables false
set_option linter.unusedSimpArgs false
open Go Go.RowKit
attribute [local go_sem ↓] Go.wp_at_zero Go.wp_at_succ

/-- The count of spec.Whole after its step at record k: each record tells how many follow. -/
def WholeAt (s : List UInt8) (n k : Nat) : Prop := (k ≤ n ∧ (symSt s k).2 = 0) ∨ (n < k ∧ (symSt s n).2 = k - n)

theorem symSt_run (s : List UInt8) (k : Nat) : ∀ j, (symSt s k).2 = j → ∀ i, i ≤ j → (symSt s (k + i)).2 = j - i
  | j, h, 0, _ => by simpa using h
  | j, h, i + 1, hi => by
    have := symSt_run s k j h i (by omega)
    rw [← Nat.add_assoc, symSt_pos (by omega)]
    simp only
    omega

theorem WholeAt.step {s : List UInt8} {n k : Nat} (h : WholeAt s n k) (hk : k < n) : WholeAt s n (k + (1 + auxN (blk s k))) := by
  rcases h with ⟨-, h⟩ | ⟨h, -⟩
  · have h1 : (symSt s (k + 1)).2 = auxN (blk s k) := by rw [symSt_zero h]
    by_cases hn : k + (1 + auxN (blk s k)) ≤ n
    · refine .inl ⟨hn, ?_⟩
      have := symSt_run s (k + 1) _ h1 (auxN (blk s k)) (Nat.le_refl _)
      rw [← Nat.add_assoc, this]
      omega
    · refine .inr ⟨by omega, ?_⟩
      have := symSt_run s (k + 1) _ h1 (n - (k + 1)) (by omega)
      rw [show k + 1 + (n - (k + 1)) = n by omega] at this
      omega
  · omega

theorem WholeAt.fin {s : List UInt8} {n k : Nat} (h : WholeAt s n k) (hk : n ≤ k) : ((k : Int) == (n : Int)) = decide ((symSt s n).2 = 0) := by
  rcases h with ⟨h1, h2⟩ | ⟨h1, h2⟩
  · obtain rfl : k = n := by omega
    simp [h2]
  · rw [decide_eq_false (by omega), beq_eq_false_iff_ne]
    omega

theorem symSt_get (s : List UInt8) : ∀ n k, k < n → (symSt s n).1[k]? = some (if (symSt s k).2 = 0 then coffL (blk s k) else auxL (blk s k))
  | n + 1, k, hk => by
    have hl := symSt_len s n
    have hs : (symSt s (n + 1)).1 = (symSt s n).1 ++ [if (symSt s n).2 = 0 then coffL (blk s n) else auxL (blk s n)] := by
      by_cases h : (symSt s n).2 = 0
      · rw [symSt_zero h, if_pos h]
      · rw [symSt_pos h, if_neg h]
    rw [hs]
    by_cases h : k < n
    · rw [List.getElem?_append_left (by omega)]
      exact symSt_get s n k h
    · obtain rfl : k = n := by omega
      rw [List.getElem?_append_right (by omega), hl, Nat.sub_self]
      rfl

set_option maxHeartbeats 1000000 in
theorem whole_nil (A : Option Addr) (w : World) : Calls Tryd.prog 24 #[.slice A 0 0] w fun e w' => e = .returned (.bool true) ∧ w = w' := by
  go_enter Tryd.func24, Tryd.ntmps24
  go_wp2
  refine wp_loop_rounds 1 ?_
  rw [rounds_succ]
  go_wp2
  go_ret
  exact ⟨rfl, rfl⟩

set_option maxRecDepth 100000 in
set_option maxHeartbeats 1000000 in
theorem whole_some (s : List UInt8) (n g cap : Nat) (w : World) (hn : n ≤ 65535)
    (hcell : Hid (∀ k, k < n → ∃ x : CoffL, (symSt s n).1[k]? = some x ∧ w.cell? ⟨g, k * 6 + 5, none⟩ = some (.int .u8 x.aux))) :
    Calls Tryd.prog 24 #[.slice (some ⟨g, 0, none⟩) n cap] w fun e w' => e = .returned (.bool (decide ((symSt s n).2 = 0))) ∧ w = w' := by
  go_enter Tryd.func24, Tryd.ntmps24
  go_wp2
  go_loopw [3] (fun i wr => wr = w ∧ ∃ k : Nat, k ≤ n + 256 ∧ i = .int .i64 k ∧ Hid (WholeAt s n k)) (fun i _ => n + 256 - (intOf i).toNat)
  case atStart => exact ⟨rfl, 0, Nat.zero_le _, rfl, Lib.hid (.inl ⟨Nat.zero_le _, rfl⟩)⟩
  case round =>
    obtain ⟨rfl, k, hk, rfl, hW⟩ := hrel
    by_cases hkn : k < n
    · obtain ⟨x, hx, hc⟩ := hcell.out k hkn
      have hz : (symSt s k).2 = 0 := by
        rcases hW.out with ⟨-, h⟩ | ⟨h, -⟩
        · exact h
        · omega
      rw [symSt_get s n k hkn, if_pos hz] at hx
      obtain rfl := Option.some.inj hx
      have hau : (coffL (blk s k)).aux = ((auxN (blk s k) : Nat) : Int) := rfl
      rw [hau] at hc
      have hlt := auxN_lt (blk s k)
      have hW1 := Lib.hid (hW.out.step hkn)
      clear hx hau hz
      generalize auxN (blk s k) = x at *
      have hi0 : (0 : Int) ≤ (k : Int) := by omega
      have hi1 : (k : Int) < (n : Int) := by omega
      have q1 : IntKind.i64.wrap (x : Int) = (x : Int) := IntWalk.i64_in _ (by omega)
      have q2 : IntKind.i64.wrap (1 + (x : Int)) = 1 + (x : Int) := IntWalk.i64_in _ (by omega)
      have q3 : IntKind.i64.wrap ((k : Int) + (1 + (x : Int))) = (k : Int) + (1 + (x : Int)) := IntWalk.i64_in _ (by omega)
      go_wp2
      go_roundw
      case rel => exact ⟨by first | trivial | rfl, k + (1 + x), by omega, by go_num, hW1⟩
      case measure => simp [intOf]; omega
    · have hfin := hW.out.fin (Nat.le_of_not_lt hkn)
      have hi1 : ¬ ((k : Int) < (n : Int)) := by omega
      replace hfin := Lib.hid hfin
      go_wp2
      go_ret
      exact ⟨by rw [← hfin.out]; rfl, rfl⟩
end Go.Proofs.YthnlimhpnonnmaaDoorRRR
