/-
  The name of a section: what the figures behind a stroke tell; the reference's reckoning of it.
-/
import Derived.Test.YtjgphiogjmkniaaDoorPeStr
import Derived.Test.YtjgphiogjmkniaaDoorName
import Derived.Lib.Atoi
namespace Go.Proofs.YtjgphiogjmkniaaDoor
set_option linter.unusedVariables false
set_option linter.unusedSimpArgs false
open Go Go.RowKit
attribute [local go_sem ↓] Go.wp_at_zero Go.wp_at_succ

/-- What is told of a name (its text T): the text, and 0 good, 1 bad, 2 open. -/
def secT (T t : List UInt8) : List UInt8 × Nat :=
  if T.head? ≠ some 47 then (T, 0) else
  if T[1]? = some 43 ∨ T[1]? = some 45 then ([], 2) else
  match Lib.decFrom 0 (T.drop 1) with
  | none => ([], 1)
  | some n => if T.length = 1 ∨ strOk t.length n = false then ([], 1) else (strAt t n, 0)

theorem secT_text {T t : List UInt8} (h : T.head? ≠ some 47) : secT T t = (T, 0) := by unfold secT; rw [if_pos h]
theorem secT_open {T t : List UInt8} (h : T.head? = some 47) (h1 : T[1]? = some 43 ∨ T[1]? = some 45) : secT T t = ([], 2) := by unfold secT; rw [if_neg (fun e => e h), if_pos h1]
theorem secT_bad {T t : List UInt8} (h : T.head? = some 47) (h1 : ¬ (T[1]? = some 43 ∨ T[1]? = some 45)) (h2 : Lib.decFrom 0 (T.drop 1) = none) : secT T t = ([], 1) := by unfold secT; rw [if_neg (fun e => e h), if_neg h1, h2]
theorem secT_short {T t : List UInt8} (h : T.head? = some 47) (h1 : ¬ (T[1]? = some 43 ∨ T[1]? = some 45)) (m : Nat) (h2 : Lib.decFrom 0 (T.drop 1) = some m) (h3 : T.length = 1 ∨ strOk t.length m = false) : secT T t = ([], 1) := by
  unfold secT; rw [if_neg (fun e => e h), if_neg h1, h2]; simp only; rw [if_pos h3]
theorem secT_good {T t : List UInt8} (h : T.head? = some 47) (h1 : ¬ (T[1]? = some 43 ∨ T[1]? = some 45)) (m : Nat) (h2 : Lib.decFrom 0 (T.drop 1) = some m) (h3 : T.length ≠ 1) (h4 : strOk t.length m = true) : secT T t = (strAt t m, 0) := by
  unfold secT; rw [if_neg (fun e => e h), if_neg h1, h2]; simp only; rw [if_neg (by simp [h3, h4])]

/-- So many figures tell a small number. -/
theorem figs_lt {l : List UInt8} {m : Nat} (h : Lib.decFrom 0 l = some m) (hl : l.length ≤ 7) : m < 10000000 := by
  have h1 := Lib.decFrom_lt l 0 m h
  have h2 : 10 ^ l.length ≤ 10 ^ 7 := Nat.pow_le_pow_right (by omega) hl
  omega
theorem figs_lt6 {l : List UInt8} {m : Nat} (h : Lib.decFrom 0 l = some m) (hl : l.length ≤ 6) : m < 1000000 := by
  have h1 := Lib.decFrom_lt l 0 m h
  have h2 : 10 ^ l.length ≤ 10 ^ 6 := Nat.pow_le_pow_right (by omega) hl
  omega
/-- Figures read from place 1 on, one more. -/
theorem figs_step {T : List UInt8} {k m : Nat} (h : Lib.decFrom 0 ((T.drop 1).take k) = some m) (hk : k + 1 < T.length) {d : Nat} (hd : Lib.digitVal T[k + 1] = some d) : Lib.decFrom 0 ((T.drop 1).take (k + 1)) = some (m * 10 + d) :=
  Lib.decFrom_take (T.drop 1) k 0 m T[k + 1] d h (by rw [List.getElem?_drop, Nat.add_comm, List.getElem?_eq_getElem hk]) hd
theorem figs_none {T : List UInt8} {k : Nat} (hk : k + 1 < T.length) (hd : Lib.digitVal T[k + 1] = none) : Lib.decFrom 0 (T.drop 1) = none := by
  cases h : Lib.decFrom 0 (T.drop 1) with
  | none => rfl
  | some n =>
    obtain ⟨d, h2⟩ := Lib.digit_of_decFrom (T.drop 1) 0 n h k T[k + 1] (by rw [List.getElem?_drop, Nat.add_comm, List.getElem?_eq_getElem hk])
    rw [h2] at hd
    cases hd
/-- Atoi's reckoning of what stands behind the stroke. -/
theorem atoi_drop {T : List UInt8} (h1 : ¬ (T[1]? = some 43 ∨ T[1]? = some 45)) : Lib.atoi (T.drop 1) = if T.length ≤ 1 then none else (Lib.decFrom 0 (T.drop 1)).map fun (m : Nat) => (m : Int) := by
  cases hT : T.drop 1 with
  | nil =>
    have : T.length ≤ 1 := by have := congrArg List.length hT; simp at this; omega
    rw [if_pos this]
    rfl
  | cons b r =>
    have hlen : ¬ T.length ≤ 1 := by have := congrArg List.length hT; simp at this; omega
    have hb : T[1]? = some b := by
      have : (T.drop 1)[0]? = some b := by rw [hT]; rfl
      rwa [List.getElem?_drop] at this
    rw [if_neg hlen]
    rw [hb] at h1
    have n1 : (b == 45) = false := by rw [beq_eq_false_iff_ne]; exact fun e => h1 (.inr (by rw [e]))
    have n2 : (b == 43) = false := by rw [beq_eq_false_iff_ne]; exact fun e => h1 (.inl (by rw [e]))
    simp [Lib.atoi, n1, n2, Lib.decNat]
theorem digit_yes {x : UInt8} (h1 : 48 ≤ x.toNat) (h2 : x.toNat ≤ 57) : Lib.digitVal x = some (x.toNat - 48) := by unfold Lib.digitVal; rw [if_pos ⟨h1, h2⟩]
theorem digit_no {x : UInt8} (h : x.toNat < 48 ∨ 57 < x.toNat) : Lib.digitVal x = none := by unfold Lib.digitVal; rw [if_neg (by omega)]
end Go.Proofs.YtjgphiogjmkniaaDoor
