/-
  Names with a point: the contracts of zzContains and dotted.
-/
import Derived.Test.YtmgmmdhaklokjaaDoorText
import Derived.Lib.IndexBytes
namespace Go.Proofs.YtmgmmdhaklokjaaDoor
set_option linter.unusedVariables false
set_option linter.unusedSimpArgs false
open Go Go.RowKit
attribute [local go_sem ↓] Go.wp_at_zero Go.wp_at_succ

/-- Has the text a point? -/
def dot (l : List UInt8) : Bool := l.any (· == 46)
/-- Is there a point before place k? -/
theorem dot_none {l : List UInt8} (h : ∀ i (hi : i < l.length), l[i] ≠ 46) : dot l = false := by
  unfold dot
  rw [List.any_eq_false]
  intro x hx
  obtain ⟨i, hi, rfl⟩ := List.getElem_of_mem hx
  simpa using h i hi
theorem dot_some {l : List UInt8} (i : Nat) (hi : i < l.length) (h : l[i] = 46) : dot l = true := by
  unfold dot
  rw [List.any_eq_true]
  exact ⟨l[i], List.getElem_mem hi, by simp [h]⟩
theorem dot_piece (s : ByteArray) (i : Nat) (hi : i < s.size) : ((s.extract i (i + 1)).toList == ([46] : List UInt8)) = (s.data.toList[i]'(by simpa using hi) == 46) := by
  have hi' : i < s.data.toList.length := by simpa using hi
  have e : (s.extract i (i + 1)).data.toList = [s.data.toList[i]'hi'] := by
    rw [Lib.extract_data]
    rw [List.drop_eq_getElem_cons hi']
    simp
  rw [ByteArray.toList_eq, e]
  simp

/-- A place, or a number below nought where there is none. -/
def SomeR (s : ByteArray) (e : Ending) : Prop := ∃ r : Int, e = .returned (.int .i64 r) ∧ decide (0 ≤ r) = dot s.data.toList

set_option maxRecDepth 100000 in
set_option maxHeartbeats 1000000 in
theorem zzIndex_dot (s : ByteArray) (hs : s.size ≤ 2147483647) (w : World) :
    Calls Tryd.prog 43 #[.string s, .string ⟨#[46]⟩] w fun e w' => SomeR s e ∧ w = w' := by
  go_enter Tryd.func43, Tryd.ntmps43
  go_wp2
  go_loop [5] (fun i => ∃ k : Nat, k ≤ s.size ∧ i = .int .i64 k ∧ Hid (∀ j (hj : j < s.data.toList.length), j < k → s.data.toList[j] ≠ 46)) (fun i => s.size - (intOf i).toNat)
  case atStart => exact ⟨0, Nat.zero_le _, rfl, Lib.hid (fun j hj h => by omega)⟩
  case round =>
    obtain ⟨k, hk, rfl, hno⟩ := hrel
    by_cases hlt : k < s.size
    · have h1 : (k : Int) + 1 ≤ (s.size : Int) := by omega
      have hp := dot_piece s k hlt
      have hl : k < s.data.toList.length := by simpa using hlt
      have hx0 : (0 : Int) ≤ (k : Int) := by omega
      by_cases h46 : s.data.toList[k] = 46
      · have hd := dot_some k hl h46
        rw [show (s.data.toList[k] == 46) = true by simp [h46]] at hp
        have hfin : Hid (SomeR s (.returned (.int .i64 (k : Int)))) := Lib.hid ⟨k, rfl, by rw [hd]; simp⟩
        clear hd h46 hl
        go_wp2
        go_ret
        exact ⟨hfin.out, rfl⟩
      · have hno1 : Hid (∀ j (hj : j < s.data.toList.length), j < k + 1 → s.data.toList[j] ≠ 46) := Lib.hid (fun j hj h => by
          by_cases hjk : j < k
          · exact hno.out j hj hjk
          · obtain rfl : j = k := by omega
            exact h46)
        rw [show (s.data.toList[k] == 46) = false by simpa using h46] at hp
        clear h46 hl hno
        go_wp2
        go_round
        case rel => exact ⟨k + 1, by omega, by go_num, hno1⟩
        case measure => simp [intOf]; omega
    · have hk' : k = s.size := by omega
      have h1 : ¬ (k : Int) + 1 ≤ (s.size : Int) := by omega
      have hfin : Hid (SomeR s (.returned (.int .i64 (-1)))) := Lib.hid ⟨-1, rfl, by
        rw [dot_none (fun j hj => hno.out j hj (by have : s.data.toList.length = s.size := by simp
                                                   omega))]
        rfl⟩
      clear hno hk'
      go_wp2
      go_ret
      exact ⟨hfin.out, rfl⟩

set_option maxHeartbeats 400000 in
theorem zzContains_dot (s : ByteArray) (hs : s.size ≤ 2147483647) (w : World) :
    Calls Tryd.prog 34 #[.string s, .string ⟨#[46]⟩] w fun e w' => e = .returned (.bool (dot s.data.toList)) ∧ w = w' := by
  go_enter Tryd.func34, Tryd.ntmps34
  go_wp2_with fail
  refine (zzIndex_dot s hs w).mono ?_
  rintro e w' ⟨⟨r, rfl, hr⟩, rfl⟩
  replace hr := Lib.hid hr
  go_wp2
  go_ret
  refine ⟨?_, rfl⟩
  rw [← hr.out]
  rfl

/-- Does the text begin with _ and have a point? The text without the _, then. -/
def dotted (l : List UInt8) : Bool := l.head? == some 95 && dot l
def strip (l : List UInt8) : List UInt8 := if dotted l then l.drop 1 else l

set_option maxRecDepth 100000 in
set_option maxHeartbeats 1000000 in
theorem specDotted (s : ByteArray) (hs : s.size ≤ 2147483647) (w : World) :
    Calls Tryd.prog 22 #[.string s] w fun e w' => e = .returned (.bool (dotted s.data.toList)) ∧ w = w' := by
  have hsl : s.data.toList.length = s.size := by simp
  by_cases h0 : s.size = 0
  · have hn : s.data.toList = [] := List.eq_nil_of_length_eq_zero (by omega)
    have hd : dotted s.data.toList = false := by rw [hn]; rfl
    rw [hd]
    clear hd hn hsl
    have h1 : s.toList = [] := by rw [ByteArray.toList_eq]; exact List.eq_nil_of_length_eq_zero (by simp [h0])
    go_enter Tryd.func22, Tryd.ntmps22
    go_wp2
    go_ret
    exact ⟨rfl, rfl⟩
  · have hp : 0 < s.size := by omega
    have hl0 : 0 < s.data.toList.length := by omega
    have hhead : s.data.toList.head? = some (s.data.toList[0]'hl0) := by
      rw [List.head?_eq_getElem?, List.getElem?_eq_getElem hl0]
    by_cases h95 : s.data.toList[0]'hl0 = 95
    · have hd : dotted s.data.toList = dot s.data.toList := by unfold dotted; rw [hhead, h95]; simp
      rw [hd]
      have hb : (((s[0]).toNat : Int) == 95) = true := by
        have e : s[0] = 95 := by rw [← h95]; rfl
        rw [e]; rfl
      have hb2 : (((s[0]).toNat : Int) != 95) = false := by rw [bne, hb]; rfl
      have hn0 : ((s.size : Int) == 0) = false := by rw [beq_eq_false_iff_ne]; omega
      clear hd hhead h95 h0
      go_enter Tryd.func22, Tryd.ntmps22
      go_wp2
      clear hb hb2 hn0
      go_loop [14] (fun i => ∃ k : Nat, k ≤ s.size ∧ i = .int .i64 k ∧ Hid (∀ j (hj : j < s.data.toList.length), j < k → s.data.toList[j] ≠ 46)) (fun i => s.size - (intOf i).toNat)
      case atStart => exact ⟨0, Nat.zero_le _, rfl, Lib.hid (fun j hj h => by omega)⟩
      case round =>
        obtain ⟨k, hk, rfl, hno⟩ := hrel
        by_cases hlt : k < s.size
        · have h1 : (k : Int) < (s.size : Int) := by omega
          have hl : k < s.data.toList.length := by omega
          have hx0 : (0 : Int) ≤ (k : Int) := by omega
          have hget : s.data.toList[k] = s[k] := rfl
          by_cases h46 : s.data.toList[k] = 46
          · have hd : Hid (dot s.data.toList = true) := Lib.hid (dot_some k hl h46)
            have hb : (((s[k]).toNat : Int) == 46) = true := by
              rw [← hget, h46]; rfl
            clear h46 hget hsl
            go_wp2
            go_ret
            exact ⟨by rw [hd.out]; rfl, rfl⟩
          · have hno1 : Hid (∀ j (hj : j < s.data.toList.length), j < k + 1 → s.data.toList[j] ≠ 46) := Lib.hid (fun j hj h => by
              by_cases hjk : j < k
              · exact hno.out j hj hjk
              · obtain rfl : j = k := by omega
                exact h46)
            have hb : (((s[k]).toNat : Int) == 46) = false := by
              rw [beq_eq_false_iff_ne]
              intro e
              apply h46
              apply UInt8.toNat_inj.1
              rw [hget]
              show (s[k]).toNat = 46
              omega
            clear h46 hno hget hsl
            go_wp2
            go_round
            case rel => exact ⟨k + 1, by omega, by go_num, hno1⟩
            case measure => simp [intOf]; omega
        · have h1 : ¬ (k : Int) < (s.size : Int) := by omega
          have hd : Hid (dot s.data.toList = false) := Lib.hid (dot_none (fun j hj => hno.out j hj (by omega)))
          clear hno hsl hl0
          go_wp2
          go_ret
          exact ⟨by rw [hd.out]; rfl, rfl⟩
    · have hd : dotted s.data.toList = false := by
        unfold dotted
        rw [hhead]
        have : (some (s.data.toList[0]'hl0) == some (95 : UInt8)) = false := by simpa using h95
        rw [this]; rfl
      rw [hd]
      have hb : (((s[0]).toNat : Int) == 95) = false := by
        rw [beq_eq_false_iff_ne]
        intro e
        apply h95
        apply UInt8.toNat_inj.1
        have : s.data.toList[0]'hl0 = s[0] := rfl
        rw [this]
        show (s[0]).toNat = 95
        omega
      have hb2 : (((s[0]).toNat : Int) != 95) = true := by rw [bne, hb]; rfl
      have hn0 : ((s.size : Int) == 0) = false := by rw [beq_eq_false_iff_ne]; omega
      clear hd hhead h95 h0
      go_enter Tryd.func22, Tryd.ntmps22
      go_wp2
      go_ret
      exact ⟨rfl, rfl⟩

theorem strip_slice (s : ByteArray) (h : 1 ≤ s.size) (W : World) : (Instr.slice 9 (.string s) (some (.int .i64 1)) none none).run Tryd.prog W = .ok (.string ⟨(s.data.toList.drop 1).toArray⟩) W := by
  rw [run_slice_string_l W 9 s Tryd.underlying9 .i64 1 (by omega) (by omega)]
  have e : s.extract (1 : Int).toNat s.size = ⟨(s.data.toList.drop 1).toArray⟩ := by
    apply ByteArray.ext
    apply Array.toList_inj.1
    rw [Lib.extract_data]
    show (s.data.toList.drop 1).take (s.size - 1) = s.data.toList.drop 1
    exact List.take_of_length_le (by simp)
  rw [e]
theorem head_byte (s : ByteArray) (h : 0 < s.size) : ((((s[0]).toNat : Nat) : Int) == 95) = (s.data.toList.head? == some 95) := by
  have hl : 0 < s.data.toList.length := by simpa using h
  have e : s.data.toList.head? = some (s[0]) := by
    rw [List.head?_eq_getElem?, List.getElem?_eq_getElem hl]
    rfl
  rw [e]
  generalize s[0] = x
  by_cases h : x = 95
  · subst h; rfl
  · have h1 : (some x == some (95 : UInt8)) = false := by simpa using h
    rw [h1, beq_eq_false_iff_ne]
    intro h2
    exact h (UInt8.toNat_inj.1 (by show x.toNat = 95; omega))
theorem dot_pos {l : List UInt8} (h : dot l = true) : 0 < l.length := by
  cases l with
  | nil => cases h
  | cons x r => simp
end Go.Proofs.YtmgmmdhaklokjaaDoor
