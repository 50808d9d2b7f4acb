/-
  The reference's numbers where there are bytes enough.
  What the reader makes of the symbols of a made file. No program in sight.
  What a section's auxiliary record tells: auxFormat5, COFFSymbolReadSectionDefAux.
  Where the records of a made file's symbols stand, and what they tell. No program in sight.
  A file is read out of its bytes: the thin package's own way into the reader.
  The thin package's PeAuxOf: what the first auxiliary record of a section's symbol tells.
  The law of the first auxiliary record of a section's symbol, walked.
-/
import Derived.Test.YtbpebngjpecncaaGreatDoorGen
import Derived.Test.YtbpebngjpecncaaGreatDoorStep
import Derived.Test.YtbpebngjpecncaaGreatDoorPeLaid
import Derived.Test.YtbpebngjpecncaaGreatDoorSymsP
import Derived.Test.YtbpebngjpecncaaGreatDoorSeekP
import Derived.Test.YtbpebngjpecncaaGreatDoorFours
import Derived.Test.YtbpebngjpecncaaGreatDoorNewFileA
import Derived.Test.YtbpebngjpecncaaGreatDoorSecRd
import Derived.StillTailTactics
import Derived.Test.YtbpebngjpecncaaGreatDoorPeOf2M
import Derived.Test.YtbpebngjpecncaaGreatDoorLPeA
import Derived.Test.YtbpebngjpecncaaGreatDoorRows
import Derived.Deep.WholeRow
import Derived.Maps.OwnSet
import Derived.ProofKit
import Derived.LaidMore
import Derived.LaidLaws
import Derived.LaidEql
import Derived.MakeChecks
import Derived.OpenShut
import Derived.Stop.Joined
namespace Go.Proofs.YtbpebngjpecncaaGreatDoor
set_option linter.unusedVariables false
set_option linter.unusedSimpArgs false
set_option maxRecDepth 100000
open Go Go.RowKit

/-- The reference's numbers where there are bytes enough. -/
theorem fields_ok (big : Bool) (A Bs : Option Addr) (l : List UInt8) (ws : List Int) (n c m d : Nat) (hn : Hid (n = l.length)) (hc : n ≤ c) (hb : n ≤ 2147483647) (hm : Hid (m = ws.length)) (hm1 : m ≤ 1000) (hws : Hid (∀ x ∈ ws, -1000 ≤ x ∧ x ≤ 8)) (w : World) (hA : Hid (RB w A l)) (hW : Hid (RC w Bs 1 m (ws.map iv))) (hZ : Hid (widthOf ws ≤ l.length)) (K : Nat) (hK : Hid ((numsOf big ws l).length = K)) :
    Calls Tryz.prog 7 #[.bool big, .slice Bs m d, .slice A n c] w fun e w' => (∃ B d', e = .returned (.tuple #[.slice B K d', .bool true]) ∧ Hid (RT w' 54 B 1 K ((numsOf big ws l).map uv))) ∧ Below w.heap.size w w' := by
  refine (fields_any big A Bs l ws n c m d hn hc hb hm hm1 hws w hA hW).mono ?_
  have hf := fieldsOf_all big ws l
  rw [if_neg (by have := hZ.out; omega)] at hf
  rintro e w' ⟨h | ⟨r, v, e3, rfl, own⟩, hbl⟩
  · rw [hf] at h; cases h.1
  · obtain rfl := Option.some.inj (hf.symm.trans e3)
    obtain ⟨B, d', rfl, hR, -, -⟩ := RT.of_owns own
    rw [hK.out] at hR ⊢
    exact ⟨⟨B, d', rfl, Lib.hid hR⟩, hbl⟩

open Go Go.RowKit

theorem symStL_more {t0 : List UInt8} {syms : List SymL} (k : Nat) : ∀ i, ∃ r, (symStL t0 syms (k + i)).rest = (symStL t0 syms k).rest ++ r
  | 0 => ⟨[], by simp⟩
  | i + 1 => by
    obtain ⟨r, h1⟩ := symStL_more (t0 := t0) (syms := syms) k i
    rw [← Nat.add_assoc]
    cases hb : syms[k + i]? with
    | none => exact ⟨r, by rw [symStL, hb]; exact h1⟩
    | some y =>
      rw [symStL_succ hb]
      exact ⟨r ++ recB (symStL t0 syms (k + i)).texts y ++ auxsB y.aux (k + i), by simp only [symStep, h1, List.append_assoc]⟩
theorem blk_app {a b : List UInt8} {N : Nat} (h : a.length = 18 * N) : blk (a ++ b) N = b.take 18 := by
  unfold blk
  rw [List.drop_left' h]
theorem auxsB_succ (n k : Nat) : auxsB (n + 1) k = auxsB n k ++ auxB n k := by
  unfold auxsB
  rw [List.range_succ, List.map_append, List.flatten_append]
  simp
theorem auxsB_split (n k i : Nat) (h : i < n) : ∃ r, auxsB n k = auxsB i k ++ (auxB i k ++ r) := by
  obtain ⟨d, rfl⟩ : ∃ d, n = i + 1 + d := ⟨n - (i + 1), by omega⟩
  clear h
  induction d with
  | zero => exact ⟨[], by rw [Nat.add_zero, auxsB_succ, List.append_nil]⟩
  | succ d ih =>
    obtain ⟨r, hr⟩ := ih
    exact ⟨r ++ auxB (i + 1 + d) k, by rw [← Nat.add_assoc, auxsB_succ, hr]; simp⟩
theorem auxB_len (j k : Nat) : (auxB j k).length = 18 := rfl
/-- The bytes of a symbol's records, where they stand. -/
theorem sym_at {t0 R s : List UInt8} {syms : List SymL} (hok : ∀ y ∈ syms, SymOk y) (hs : s = (symStL t0 syms syms.length).rest ++ R) {j : Nat} {y : SymL} (hy : syms[j]? = some y) :
    blk s (symStL t0 syms j).n = recB (symStL t0 syms j).texts y ∧ ∀ i, i < y.aux → blk s ((symStL t0 syms j).n + 1 + i) = auxB i j := by
  have hj := (List.getElem?_eq_some_iff.1 hy).1
  obtain ⟨r, hr⟩ := symStL_more (t0 := t0) (syms := syms) (j + 1) (syms.length - (j + 1))
  rw [show j + 1 + (syms.length - (j + 1)) = syms.length by omega, symStL_succ hy] at hr
  obtain ⟨-, hl, -⟩ := symSt_len' (t0 := t0) hok j (by omega)
  have e : s = (symStL t0 syms j).rest ++ (recB (symStL t0 syms j).texts y ++ (auxsB y.aux j ++ (r ++ R))) := by
    rw [hs, hr]
    simp only [symStep, List.append_assoc]
  refine ⟨?_, fun i hi => ?_⟩
  · rw [e, blk_app hl, List.take_left' (recB_len _ _)]
  · obtain ⟨r2, h2⟩ := auxsB_split y.aux j i hi
    have e2 : s = ((symStL t0 syms j).rest ++ (recB (symStL t0 syms j).texts y ++ auxsB i j)) ++ (auxB i j ++ (r2 ++ (r ++ R))) := by
      rw [e, h2]
      simp only [List.append_assoc]
    rw [e2, blk_app (by rw [List.length_append, List.length_append, hl, recB_len, auxsB_len]; omega), List.take_left' (auxB_len i j)]
theorem auxN_rec (t : List UInt8) {y : SymL} (h : y.aux ≤ 2) : auxN (recB t y) = y.aux := by
  have e : (recB t y).drop 17 = le 1 y.aux := by
    unfold recB
    rw [show (17 : Nat) = 8 + (4 + (2 + (2 + (1 + 0)))) from rfl, sub_app (symNm_len t y), sub_app (le_len _ _), sub_app (le_len _ _), sub_app (le_len _ _), sub_app (le_len _ _), List.drop_zero]
  unfold auxN
  rw [e, le_take (Nat.le_refl 1)]
  exact num_le_lt (by omega)
/-- How far the reader is behind a symbol's record and its first auxiliary ones. -/
theorem symSt_in {t0 R s : List UInt8} {syms : List SymL} (hok : ∀ y ∈ syms, SymOk y) (hs : s = (symStL t0 syms syms.length).rest ++ R) {j : Nat} {y : SymL} (hy : syms[j]? = some y) (h0 : (symSt s (symStL t0 syms j).n).2 = 0) :
    ∀ i, i ≤ y.aux → (symSt s ((symStL t0 syms j).n + 1 + i)).2 = y.aux - i
  | 0, _ => by
    have ho := hok y (List.mem_of_getElem? hy)
    rw [Nat.add_zero, symSt_zero h0, (sym_at hok hs hy).1]
    simp only [auxN_rec _ ho.aux]
    rfl
  | i + 1, hi => by
    have ih := symSt_in hok hs hy h0 i (by omega)
    rw [← Nat.add_assoc, symSt_pos (by rw [ih]; omega)]
    simp only [ih]
    omega
theorem symSt_end {t0 R s : List UInt8} {syms : List SymL} (hok : ∀ y ∈ syms, SymOk y) (hs : s = (symStL t0 syms syms.length).rest ++ R) : ∀ j, j ≤ syms.length → (symSt s (symStL t0 syms j).n).2 = 0
  | 0, _ => rfl
  | j + 1, hj => by
    have hy : syms[j]? = some syms[j] := List.getElem?_eq_getElem (by omega)
    have h0 := symSt_end hok hs j (by omega)
    have h1 := symSt_in hok hs hy h0 syms[j].aux (Nat.le_refl _)
    rw [symStL_succ hy]
    simp only [symStep]
    rw [h1]
    omega
/-- Where the reader is at a symbol, it is at one that was made. -/
theorem symSt_prim {t0 R s : List UInt8} {syms : List SymL} (hok : ∀ y ∈ syms, SymOk y) (hs : s = (symStL t0 syms syms.length).rest ++ R) : ∀ j, j ≤ syms.length → ∀ k, k < (symStL t0 syms j).n → (symSt s k).2 = 0 → ∃ i y, syms[i]? = some y ∧ k = (symStL t0 syms i).n
  | 0, _, k, hk, _ => absurd hk (Nat.not_lt_zero k)
  | j + 1, hj, k, hk, h0 => by
    have hy : syms[j]? = some syms[j] := List.getElem?_eq_getElem (by omega)
    rw [symStL_succ hy] at hk
    simp only [symStep] at hk
    by_cases h1 : k < (symStL t0 syms j).n
    · exact symSt_prim hok hs j (by omega) k h1 h0
    · by_cases h2 : k = (symStL t0 syms j).n
      · exact ⟨j, _, hy, h2⟩
      · obtain ⟨i, rfl⟩ : ∃ i, k = (symStL t0 syms j).n + 1 + i := ⟨k - (symStL t0 syms j).n - 1, by omega⟩
        have h3 := symSt_in hok hs hy (symSt_end hok hs j (by omega)) i (by omega)
        omega
/-- What the reader keeps of slot k. -/
theorem symSt_get (s : List UInt8) : ∀ n k, k < n → (symSt s n).1[k]? = some (if (symSt s k).2 = 0 then coffL (blk s k) else auxL (blk s k))
  | 0, k, h => absurd h (Nat.not_lt_zero k)
  | n + 1, k, h => by
    have hl := symSt_len s n
    by_cases hk : k < n
    · have ih := symSt_get s n k hk
      by_cases h0 : (symSt s n).2 = 0
      · rw [symSt_zero h0]
        simp only
        rw [List.getElem?_append_left (by omega), ih]
      · rw [symSt_pos h0]
        simp only
        rw [List.getElem?_append_left (by omega), ih]
    · obtain rfl : k = n := by omega
      by_cases h0 : (symSt s k).2 = 0
      · rw [symSt_zero h0, if_pos h0]
        simp only
        rw [List.getElem?_append_right (by omega), hl, Nat.sub_self]
        rfl
      · rw [symSt_pos h0, if_neg h0]
        simp only
        rw [List.getElem?_append_right (by omega), hl, Nat.sub_self]
        rfl
theorem rem_symSt (s : List UInt8) (n : Nat) (au : Nat → Nat) (hau : ∀ k, k < n → (symSt s k).2 = 0 → au k = auxN (blk s k)) : ∀ k, k ≤ n → (rem au k).2 = (symSt s k).2
  | 0, _ => rfl
  | k + 1, hk => by
    have ih := rem_symSt s n au hau k (by omega)
    by_cases h0 : (symSt s k).2 = 0
    · rw [symSt_zero h0, rem, if_pos (by rw [ih]; exact h0)]
      exact hau k (by omega) h0
    · rw [symSt_pos h0, rem, if_neg (by rw [ih]; exact h0)]
      simp only [ih]
theorem zeros_num (k : Nat) (r : List UInt8) : num false ((List.replicate 4 (0 : UInt8) ++ r).take 4) = 0 := by
  rw [List.take_left' (by simp)]
  decide
/-- A symbol's name is found. -/
theorem symName_at {m : MadeL} (h : MadeOk m) {j : Nat} {y : SymL} (hy : m.syms[j]? = some y) : (symRes (symNm (symStL (secE m).texts m.syms j).texts y) (symE m).texts).2 = true := by
  have hj := (List.getElem?_eq_some_iff.1 hy).1
  have ho := h.syms y (List.mem_of_getElem? hy)
  obtain ⟨r, hr⟩ := symStL_pre (t0 := (secE m).texts) (syms := m.syms) j (m.syms.length - j)
  rw [show j + (m.syms.length - j) = m.syms.length by omega] at hr
  have hle : (symStL (secE m).texts m.syms j).texts.length ≤ (symE m).texts.length := by
    show _ ≤ (symStL (secE m).texts m.syms m.syms.length).texts.length
    rw [hr, List.length_append]
    omega
  have htx := (texts_len h).2.2.1
  unfold symRes
  split
  · rename_i hoff
    unfold symNm at hoff ⊢
    split
    · have e : offOf (List.replicate 4 0 ++ le 4 (4 + (symStL (secE m).texts m.syms j).texts.length)) = 4 + (symStL (secE m).texts m.syms j).texts.length := by
        unfold offOf
        rw [if_pos (zeros_num 0 _), List.drop_left' (by simp)]
        exact num_le_lt (by omega)
      simp only
      rw [e]
      simp [strOk]
      omega
    · rename_i hl
      exfalso
      rw [if_neg hl] at hoff
      have hn0 := ho.n0
      have hnz := ho.nz
      unfold isOff at hoff
      have hne : offOf (name8B y.name) = 0 := by
        unfold offOf
        rw [if_neg]
        intro e
        obtain ⟨x, xs, hx⟩ : ∃ x xs, y.name = x :: xs := by
          cases hq : y.name with
          | nil => exact absurd hq hn0
          | cons a b => exact ⟨a, b, rfl⟩
        have hx0 : x ≠ 0 := fun e => hnz (by rw [hx, e]; simp)
        have h8 : (name8B y.name).length = 8 := name8B_len (by
          have : longName y = false := by simpa using hl
          unfold longName at this
          simp at this
          omega)
        obtain ⟨y0, y1, y2, y3, y4, y5, y6, y7, e8⟩ := list8' h8.symm
        have hxy : y0 = x := by
          have : (name8B y.name).head? = some x := by rw [hx]; rfl
          rw [e8] at this
          simpa using this
        rw [e8] at e
        have := (num4_zero y0 y1 y2 y3).1 e
        apply hx0
        rw [← hxy]
        apply UInt8.toNat_inj.1
        show y0.toNat = 0
        exact this.1
      simp [hne] at hoff
  · rfl
theorem auxL_eight {s : List UInt8} (h : 8 ≤ s.length) : (auxL s).name.length = 8 := by simp [auxL]; omega
/-- The symbols of a made file are as the reader wants them. -/
theorem syms_laid {m : MadeL} (h : MadeOk m) : SymsGood m := by
  have hs := fileB_at4 h
  have hend := symSt_end h.syms hs m.syms.length (Nat.le_refl _)
  have hl : ((fileB m).drop (placeN m)).length = 18 * (symE m).n + 4 + (symE m).texts.length := by
    rw [hs, List.length_append, List.length_append, le_len, symRest_len h]
    omega
  obtain ⟨s, hsd⟩ : ∃ s, (fileB m).drop (placeN m) = s := ⟨_, rfl⟩
  unfold SymsGood
  rw [hsd] at hs hl ⊢
  rw [hsd] at hend
  have hblk : ∀ k, k < (symE m).n → (blk s k).length = 18 := fun k hk => by
    unfold blk
    rw [List.length_take, List.length_drop]
    omega
  refine ⟨hend, fun k => if (symSt s k).2 = 0 then coffL (blk s k) else auxL (blk s k), fun k => if (symSt s k).2 = 0 then auxN (blk s k) else 0, fun k hk => ⟨symSt_get s _ k hk, ?_, ?_, ?_⟩, fun k hk hr => ?_⟩
  · dsimp only
    split
    · exact coffL_eight (by rw [hblk k hk]; omega)
    · exact auxL_eight (by rw [hblk k hk]; omega)
  · dsimp only
    split <;> rfl
  · dsimp only
    split
    · have := num_lt false ((((blk s k).drop 17).take 1))
      have h1 : (((blk s k).drop 17).take 1).length = 1 := by rw [List.length_take, List.length_drop, hblk k hk]; rfl
      rw [h1] at this
      exact this
    · omega
  · have hz : (symSt s k).2 = 0 := by
      rw [← rem_symSt s (symE m).n (fun k => if (symSt s k).2 = 0 then auxN (blk s k) else 0) (fun k _ h0 => if_pos h0) k (Nat.le_of_lt hk)]
      exact hr
    obtain ⟨i, y, hy, hki⟩ := symSt_prim h.syms hs m.syms.length (Nat.le_refl _) k hk hz
    dsimp only
    rw [if_pos hz]
    have hb := (sym_at h.syms hs hy).1
    rw [← hki] at hb
    rw [hb]
    have e : (coffL (recB (symStL (secE m).texts m.syms i).texts y)).name = symNm (symStL (secE m).texts m.syms i).texts y := by
      show (recB _ y).take 8 = _
      unfold recB
      exact List.take_left' (symNm_len _ _)
    rw [e]
    exact symName_at h hy

open Go Go.RowKit
attribute [local go_sem ↓] Go.wp_at_zero Go.wp_at_succ

/-- What an auxiliary record tells, as cells. -/
def auxCells (c : CoffL) : List Value := [.int .u32 ((num false (c.name.take 4) : Nat) : Int), .int .u16 ((num false ((c.name.drop 4).take 2) : Nat) : Int), .int .u16 ((num false ((c.name.drop 6).take 2) : Nat) : Int), .int .u32 c.value, .int .u16 (IntKind.u16.wrap c.sect), .int .u8 (IntKind.u8.wrap c.typ), .int .u8 0, .int .u8 0, .int .u8 0]
theorem u16_RB0 (b o n c : Nat) (l : List UInt8) (w : World) (h : RB w (some ⟨b, o, none⟩) l) (hl : 2 ≤ l.length) (hn : 2 ≤ n) (hc : n ≤ c) :
    Calls Tryz.prog 43 #[.int .u8 0, .slice (some ⟨b, o, none⟩) n c] w fun e w' => e = .returned (.int .u16 (num false (l.take 2) : Nat)) ∧ ∃ q, w' = w.drewN q := u16_RB false b o n c l w h hl hn hc
theorem u32_RB0 (b o n c : Nat) (l : List UInt8) (w : World) (h : RB w (some ⟨b, o, none⟩) l) (hl : 4 ≤ l.length) (hn : 4 ≤ n) (hc : n ≤ c) :
    Calls Tryz.prog 33 #[.int .u8 0, .slice (some ⟨b, o, none⟩) n c] w fun e w' => e = .returned (.int .u32 (num false (l.take 4) : Nat)) ∧ ∃ q, w' = w.drewN q := u32_RB false b o n c l w h hl hn hc

set_option maxRecDepth 100000 in
set_option maxHeartbeats 2000000 in
theorem auxFormat5_any (V o : Nat) (pre post : List Value) (c : CoffL) (TV : TypeId) (w : World) (hO : Hid (pre.length = o)) (h8 : c.name.length = 8) (hV : Hid (w.heap[V]? = some (.cells (pre ++ (symCells c ++ post)).toArray TV (0, 0)))) :
    Calls Tryz.prog 31 #[.pointer (some ⟨V, o, none⟩)] w fun e w' => (∃ g, e = .returned (.pointer (some ⟨g, 0, none⟩)) ∧ w.heap.size ≤ g ∧ Hid (w'.heap[g]? = some (.cells (auxCells c).toArray 79 (0, 0)))) ∧ Below w.heap.size w w' := by
  obtain ⟨nm, x1, x2, x3, x4, x5⟩ := c
  have e : symCells ⟨nm, x1, x2, x3, x4, x5⟩ = nm.map bv ++ [.int .u32 x1, .int .i16 x2, .int .u16 x3, .int .u8 x4, .int .u8 x5] := rfl
  rw [e] at hV
  clear e
  have hnl : (nm.map bv).length = 8 := by simpa using h8
  have nm0 : RB w (some ⟨V, o, none⟩) nm := RB.of_mid (pre := pre) (post := [.int .u32 x1, .int .i16 x2, .int .u16 x3, .int .u8 x4, .int .u8 x5] ++ post) hV.out (by simp) o hO.out
  have nm4 : RB w (some ⟨V, o + 4, none⟩) (nm.drop 4) := by
    have := nm0.drop (c := 8) (by simpa using Nat.le_of_eq h8) 4
    rwa [slA_some V o 8 4 (by omega)] at this
  have nm6 : RB w (some ⟨V, o + 6, none⟩) (nm.drop 6) := by
    have := nm0.drop (c := 8) (by simpa using Nat.le_of_eq h8) 6
    rwa [slA_some V o 8 6 (by omega)] at this
  replace nm0 := Lib.hid nm0
  replace nm4 := Lib.hid nm4
  replace nm6 := Lib.hid nm6
  have cm : ∀ (j : Nat) (v : Value), ([.int .u32 x1, .int .i16 x2, .int .u16 x3, .int .u8 x4, .int .u8 x5] : List Value)[j]? = some v → w.cell? ⟨V, o + (8 + j), none⟩ = some v := fun j v hv => cell_mid hO hV (8 + j) (by rw [List.getElem?_append_right (by omega), hnl, Nat.add_sub_cancel_left]; exact hv)
  have c8 : w.cell? ⟨V, o + 8, none⟩ = some (.int .u32 x1) := cm 0 _ rfl
  have c9 : w.cell? ⟨V, o + 9, none⟩ = some (.int .i16 x2) := cm 1 _ rfl
  have c10 : w.cell? ⟨V, o + 10, none⟩ = some (.int .u16 x3) := cm 2 _ rfl
  have H8 := Lib.hid h8
  have HU4 := Lib.hid (fun q => u16_RB0 V (o + 4) 4 4 (nm.drop 4) (w.drewN q) (nm4.out.drewN q) (by rw [List.length_drop, h8]; omega) (by omega) (by omega))
  have HU6 := Lib.hid (fun q => u16_RB0 V (o + 6) 2 2 (nm.drop 6) (w.drewN q) (nm6.out.drewN q) (by rw [List.length_drop, h8]; omega) (by omega) (by omega))
  clear cm hnl
  clear h8
  go_enter Tryz.func31, Tryz.ntmps31
  go_wp2_with fail
  go_region_held3 (fun w' => w'.cell? ⟨V, o + 8, none⟩ = some (.int .u32 x1) ∧ w'.cell? ⟨V, o + 9, none⟩ = some (.int .i16 x2) ∧ w'.cell? ⟨V, o + 10, none⟩ = some (.int .u16 x3)) (go_keep)
    (first | (go_at_call 33; refine (u32_RB0 V o 8 8 nm _ (by exact nm0.out) (by rw [H8.out]; omega) (by omega) (by omega)).mono ?_; rintro e w1 ⟨rfl, q1, rfl⟩) | (go_at_call 43; (with_reducible refine (HU4.out _).mono ?_); rintro e w2 ⟨rfl, q2, rfl⟩) | (go_at_call 43; (with_reducible refine (HU6.out _).mono ?_); rintro e w3 ⟨rfl, q3, rfl⟩))
  go_wp2
  go_ret
  exact ⟨⟨_, rfl, Nat.le_refl _, Lib.hid (heap_alloc_new (w.drewN _) _)⟩, (below_drewN (Below.refl _ w) _).alloc (Nat.le_refl _) _⟩

/-- The numbers of an auxiliary record. -/
def nAux (s : List UInt8) : List Nat := [num false (s.take 4), num false ((s.drop 4).take 2), num false ((s.drop 6).take 2), num false ((s.drop 8).take 4), num false ((s.drop 12).take 2), num false ((s.drop 14).take 1)]
theorem nAux_eq (l : List UInt8) : nAux (l.take 18) = numsOf false [4, 2, 2, 4, 2, 1, -3] l := by
  simp [nAux, numsOf, List.drop_take, List.take_take]
theorem wrap_i16 (n : Int) : IntKind.i16.wrap n = (n + 32768) % 65536 - 32768 := by
  simp [IntKind.wrap, IntKind.bits, IntKind.signed]
  split <;> omega
theorem auxCells_eq (s : List UInt8) : auxCells (auxL s) = [.int .u32 ((num false (s.take 4) : Nat) : Int), .int .u16 ((num false ((s.drop 4).take 2) : Nat) : Int), .int .u16 ((num false ((s.drop 6).take 2) : Nat) : Int), .int .u32 ((num false ((s.drop 8).take 4) : Nat) : Int), .int .u16 ((num false ((s.drop 12).take 2) : Nat) : Int), .int .u8 ((num false ((s.drop 14).take 1) : Nat) : Int), .int .u8 0, .int .u8 0, .int .u8 0] := by
  have h1 := wrap_kind false (s.drop 12) 2 65536 (by decide)
  have h2 := wrap_kind false (s.drop 14) 1 256 (by decide)
  have e1 : IntKind.u16.wrap (IntKind.i16.wrap ((num false ((s.drop 12).take 2) : Nat) : Int)) = ((num false ((s.drop 12).take 2) : Nat) : Int) := by
    rw [IntKind.wrap_u16, wrap_i16]
    omega
  have e2 : IntKind.u8.wrap (IntKind.u16.wrap ((num false ((s.drop 14).take 1) : Nat) : Int)) = ((num false ((s.drop 14).take 1) : Nat) : Int) := by
    rw [IntKind.wrap_u8, IntKind.wrap_u16]
    omega
  simp only [auxCells, auxL, e1, e2]
  simp [List.drop_take, List.take_take]

set_option maxHeartbeats 400000 in
theorem peAux_any (w : World) :
    Calls Tryz.prog 8 #[] w fun e w' => (∃ v, e = .returned (.slice v 7 7) ∧ RC w' v 1 7 (([4, 2, 2, 4, 2, 1, -3] : List Int).map iv)) ∧ Below w.heap.size w w' := by
  go_enter Tryz.func8, Tryz.ntmps8
  go_wp2
  go_ret
  exact ⟨⟨_, rfl, rc_new rfl rfl⟩, (Below.refl _ _).alloc (Nat.le_refl _) _⟩

/-- A row with a record in its midst. -/
theorem row_split {α : Type} (L c : List α) (o : Nat) (h : ∀ (j : Nat) (u : α), c[j]? = some u → L[o + j]? = some u) (ho : o + c.length ≤ L.length) : L = L.take o ++ (c ++ L.drop (o + c.length)) := by
  apply List.ext_getElem?
  intro i
  by_cases h1 : i < o
  · rw [List.getElem?_append_left (by rw [List.length_take]; omega), List.getElem?_take, if_pos h1]
  · rw [List.getElem?_append_right (by rw [List.length_take]; omega), List.length_take, Nat.min_eq_left (by omega)]
    by_cases h2 : i - o < c.length
    · rw [List.getElem?_append_left h2, List.getElem?_eq_getElem h2]
      have := h (i - o) _ (List.getElem?_eq_getElem h2)
      rwa [show o + (i - o) = i by omega] at this
    · rw [List.getElem?_append_right (by omega), List.getElem?_drop]
      congr 1
      omega
/-- Records of symbols in a row. -/
structure CoffRow (w : World) (g n : Nat) (L : List Value) (cs : Nat → CoffL) : Prop where
  row : w.heap[g]? = some (.cells L.toArray 99 (0, 0))
  at_ : ∀ k, k < n → ∀ (j : Nat) (u : Value), (symCells (cs k))[j]? = some u → L[k * 13 + j]? = some u
  n8 : ∀ k, k < n → (cs k).name.length = 8
  len : n * 13 ≤ L.length
theorem sym_len {c : CoffL} (h : c.name.length = 8) : (symCells c).length = 13 := by simp [symCells, symTail, h]
theorem CoffRow.tail {w : World} {g n : Nat} {L : List Value} {cs : Nat → CoffL} (h : CoffRow w g n L cs) {k : Nat} (hk : k < n) (i : Nat) (v : Value) (hv : (symTail (cs k))[i]? = some v) : w.cell? ⟨g, k * 13 + (8 + i), none⟩ = some v :=
  World.cell?_of_row h.row _ _ (h.at_ k hk (8 + i) v (by
    unfold symCells
    rw [List.getElem?_append_right (by rw [List.length_map, h.n8 k hk]; omega), List.length_map, h.n8 k hk, Nat.add_sub_cancel_left]
    exact hv))

set_option maxHeartbeats 2000000 in
/-- What the auxiliary record behind a symbol tells. -/
theorem secDef_ok (F g n c k : Nat) (L : List Value) (cs : Nat → CoffL) (w : World) (hk : k + 1 < n) (hn : n ≤ 300) (h10 : w.cell? ⟨F, 10, none⟩ = some (.slice (some ⟨g, 0, none⟩) n c)) (hR : Hid (CoffRow w g n L cs)) (hcls : Hid ((cs k).cls = 3)) (a : Nat) (ha : Hid ((cs k).aux = (a : Int))) (ha0 : 0 < a) :
    Calls Tryz.prog 24 #[.pointer (some ⟨F, 0, none⟩), .int .i64 (k : Int)] w fun e w' => (∃ G, e = .returned (.tuple #[.pointer (some ⟨G, 0, none⟩), .nilIface]) ∧ Hid (w'.heap[G]? = some (.cells (auxCells (cs (k + 1))).toArray 79 (0, 0)))) ∧ Below w.heap.size w w' := by
  have c11 : w.cell? ⟨g, k * 13 + 11, none⟩ = some (.int .u8 3) := by
    have := hR.out.tail (k := k) (by omega) 3 (.int .u8 (cs k).cls) rfl
    rw [hcls.out] at this
    exact this
  have c12 : w.cell? ⟨g, k * 13 + 12, none⟩ = some (.int .u8 (a : Int)) := by
    have := hR.out.tail (k := k) (by omega) 4 (.int .u8 (cs k).aux) rfl
    rw [ha.out] at this
    exact this
  have hab : ((a : Int) == 0) = false := by rw [beq_eq_false_iff_ne]; omega
  have hl13 := sym_len (hR.out.n8 (k + 1) hk)
  have hsp := row_split L (symCells (cs (k + 1))) ((k + 1) * 13) (fun j u hu => hR.out.at_ (k + 1) hk j u hu) (by have := hR.out.len; omega)
  have hrow := hR.out.row
  rw [hsp] at hrow
  have CALL := Lib.hid (auxFormat5_any g ((k + 1) * 13) (L.take ((k + 1) * 13)) (L.drop ((k + 1) * 13 + (symCells (cs (k + 1))).length)) (cs (k + 1)) 99 w (Lib.hid (by rw [List.length_take]; have := hR.out.len; omega)) (hR.out.n8 (k + 1) hk) (Lib.hid hrow))
  have hk1 : IntKind.i64.wrap ((k : Int) + 1) = (k : Int) + 1 := IntWalk.i64_in _ (by omega)
  clear hrow hsp hl13 hR hcls ha
  go_enter Tryz.func24, Tryz.ntmps24
  go_wp2_with fail
  refine CALL.out.mono ?_
  rintro e w1 ⟨⟨G, rfl, -, hG⟩, b⟩
  replace b := Lib.hid b
  go_wp2
  go_ret2
  exact ⟨⟨G, rfl, hG⟩, b.out⟩

set_option maxHeartbeats 2000000 in
/-- A symbol of another class, or one without auxiliary records: an error. -/
theorem secDef_err (F g n c k : Nat) (L : List Value) (cs : Nat → CoffL) (w : World) (hk : k < n) (hn : n ≤ 300) (h10 : w.cell? ⟨F, 10, none⟩ = some (.slice (some ⟨g, 0, none⟩) n c)) (hR : Hid (CoffRow w g n L cs)) (q a : Nat) (hq : Hid ((cs k).cls = (q : Int))) (ha : Hid ((cs k).aux = (a : Int))) (hqa : q ≠ 3 ∨ a = 0) :
    Calls Tryz.prog 24 #[.pointer (some ⟨F, 0, none⟩), .int .i64 (k : Int)] w fun e w' => (∃ T v, e = .returned (.tuple #[.pointer none, .iface T v])) ∧ Below w.heap.size w w' := by
  have c11 : w.cell? ⟨g, k * 13 + 11, none⟩ = some (.int .u8 (q : Int)) := by
    have := hR.out.tail (k := k) hk 3 (.int .u8 (cs k).cls) rfl
    rw [hq.out] at this
    exact this
  have c12 : w.cell? ⟨g, k * 13 + 12, none⟩ = some (.int .u8 (a : Int)) := by
    have := hR.out.tail (k := k) hk 4 (.int .u8 (cs k).aux) rfl
    rw [ha.out] at this
    exact this
  clear hR hq ha
  by_cases h3 : q = 3
  · subst h3
    obtain rfl : a = 0 := by omega
    go_enter Tryz.func24, Tryz.ntmps24
    go_wp2_with fail
    refine (errNew _ w).mono ?_
    rintro e w1 ⟨⟨T, v, rfl⟩, b⟩
    replace b := Lib.hid b
    go_wp2
    go_ret2
    exact ⟨⟨T, v, rfl⟩, b.out⟩
  · have hq3 : ((q : Int) == 3) = false := by rw [beq_eq_false_iff_ne]; omega
    have hq3' : ((q : Int) != 3) = true := by rw [bne, hq3]; rfl
    clear h3 hqa
    go_enter Tryz.func24, Tryz.ntmps24
    go_wp2_with fail
    refine (errNew _ w).mono ?_
    rintro e w1 ⟨⟨T, v, rfl⟩, b⟩
    replace b := Lib.hid b
    go_wp2
    go_ret2
    exact ⟨⟨T, v, rfl⟩, b.out⟩

open Go Go.RowKit

/-- The place of symbol j's record. -/
def startN (m : MadeL) (j : Nat) : Nat := (symStL (secE m).texts m.syms j).n
/-- The records' bytes; record k as the reader keeps it. -/
def recsB (m : MadeL) : List UInt8 := (fileB m).drop (placeN m)
def coffAt (s : List UInt8) (k : Nat) : CoffL := if (symSt s k).2 = 0 then coffL (blk s k) else auxL (blk s k)
theorem startN_succ {m : MadeL} {j : Nat} {y : SymL} (hy : m.syms[j]? = some y) : startN m (j + 1) = startN m j + 1 + y.aux := by
  unfold startN
  rw [symStL_succ hy]
  rfl
theorem startN_le {m : MadeL} (i : Nat) : ∀ d, startN m i ≤ startN m (i + d)
  | 0 => Nat.le_refl _
  | d + 1 => by
    have ih := startN_le (m := m) i d
    cases hy : m.syms[i + d]? with
    | none =>
      have e : startN m (i + (d + 1)) = startN m (i + d) := by
        show (symStL _ _ (i + d + 1)).n = _
        rw [symStL, hy]
        rfl
      omega
    | some y =>
      have e : startN m (i + (d + 1)) = startN m (i + d) + 1 + y.aux := startN_succ hy
      omega
theorem startN_lt {m : MadeL} {i j : Nat} (h : i < j) (hi : i < m.syms.length) : startN m i < startN m j := by
  have hy : m.syms[i]? = some m.syms[i] := List.getElem?_eq_getElem hi
  have h1 := startN_succ hy
  have h2 := startN_le (m := m) (i + 1) (j - (i + 1))
  rw [show i + 1 + (j - (i + 1)) = j by omega] at h2
  omega
theorem startN_inj {m : MadeL} {i j : Nat} (hi : i < m.syms.length) (hj : j < m.syms.length) (h : startN m i = startN m j) : i = j := by
  rcases Nat.lt_trichotomy i j with h1 | h1 | h1
  · have := startN_lt h1 hi
    omega
  · exact h1
  · have := startN_lt h1 hj
    omega
theorem startN_end {m : MadeL} {j : Nat} {y : SymL} (hy : m.syms[j]? = some y) : startN m j + 1 + y.aux ≤ (symE m).n := by
  have hj := (List.getElem?_eq_some_iff.1 hy).1
  have h2 := startN_le (m := m) (j + 1) (m.syms.length - (j + 1))
  rw [show j + 1 + (m.syms.length - (j + 1)) = m.syms.length by omega, startN_succ hy] at h2
  exact h2
theorem rec_cls (t : List UInt8) {y : SymL} (hc : y.cls < 256) : (coffL (recB t y)).cls = (y.cls : Int) := by
  have e : (recB t y).drop 16 = le 1 y.cls ++ le 1 y.aux := by
    unfold recB
    rw [show (16 : Nat) = 8 + (4 + (2 + (2 + 0))) from rfl, sub_app (symNm_len t y), sub_app (le_len _ _), sub_app (le_len _ _), sub_app (le_len _ _), List.drop_zero]
  show ((num false (((recB t y).drop 16).take 1) : Nat) : Int) = _
  rw [e, List.take_left' (le_len _ _), num_le_lt (by omega)]
theorem rec_aux (t : List UInt8) {y : SymL} (h : y.aux ≤ 2) : (coffL (recB t y)).aux = (y.aux : Int) := by
  have := auxN_rec t h
  unfold auxN at this
  show ((num false (((recB t y).drop 17).take 1) : Nat) : Int) = _
  rw [this]
/-- A symbol's record. -/
theorem at_start {m : MadeL} (h : MadeOk m) {j : Nat} {y : SymL} (hy : m.syms[j]? = some y) (hc : y.cls < 256) : (coffAt (recsB m) (startN m j)).cls = (y.cls : Int) ∧ (coffAt (recsB m) (startN m j)).aux = (y.aux : Int) := by
  have hj := (List.getElem?_eq_some_iff.1 hy).1
  have hs := fileB_at4 h
  have h0 := symSt_end h.syms hs j (by omega)
  have hb := (sym_at h.syms hs hy).1
  have ho := h.syms y (List.mem_of_getElem? hy)
  unfold coffAt recsB startN
  rw [if_pos h0, hb]
  exact ⟨rec_cls _ hc, rec_aux _ ho.aux⟩
/-- The record behind it. -/
theorem at_next {m : MadeL} (h : MadeOk m) {j : Nat} {y : SymL} (hy : m.syms[j]? = some y) (ha : 0 < y.aux) : coffAt (recsB m) (startN m j + 1) = auxL (auxB 0 j) := by
  have hj := (List.getElem?_eq_some_iff.1 hy).1
  have hs := fileB_at4 h
  have h0 := symSt_end h.syms hs j (by omega)
  have h1 := symSt_in h.syms hs hy h0 0 (Nat.zero_le _)
  have hb := (sym_at h.syms hs hy).2 0 ha
  rw [Nat.add_zero] at h1 hb
  unfold coffAt recsB startN
  rw [if_neg (by rw [h1]; omega), hb]
/-- No symbol's record. -/
theorem at_other {m : MadeL} (h : MadeOk m) {k : Nat} (hk : k < (symE m).n) (hno : ∀ j, j < m.syms.length → startN m j ≠ k) : (coffAt (recsB m) k).cls = 0 ∧ (coffAt (recsB m) k).aux = 0 := by
  have hs := fileB_at4 h
  have h0 : (symSt (recsB m) k).2 ≠ 0 := fun e => by
    obtain ⟨i, y, hy, hki⟩ := symSt_prim h.syms hs m.syms.length (Nat.le_refl _) k hk e
    exact hno i (List.getElem?_eq_some_iff.1 hy).1 hki.symm
  unfold coffAt
  rw [if_neg h0]
  exact ⟨rfl, rfl⟩
theorem recs_eight {m : MadeL} (h : MadeOk m) {k : Nat} (hk : k < (symE m).n) : (coffAt (recsB m) k).name.length = 8 := by
  have hl : (recsB m).length = 18 * (symE m).n + 4 + (symE m).texts.length := by
    unfold recsB
    rw [fileB_at4 h, List.length_append, List.length_append, le_len, symRest_len h]
    omega
  have hb : (blk (recsB m) k).length = 18 := by
    unfold blk
    rw [List.length_take, List.length_drop]
    omega
  unfold coffAt
  split
  · exact coffL_eight (by omega)
  · exact auxL_eight (by omega)
/-- The records of a file that was read, in a row. -/
theorem coffRow_of {w : World} {base : Nat} {cv : Value} {m : MadeL} (h : MadeOk m) (hown : w.ownsRow base 99 13 cv (symE m).n (symRow (recsB m) (symE m).n)) (h0 : 0 < (symE m).n) :
    ∃ g c L, cv = .slice (some ⟨g, 0, none⟩) (symE m).n c ∧ CoffRow w g (symE m).n L (coffAt (recsB m)) := by
  rcases hown.2 with ⟨-, e⟩ | ⟨g, cap, cur, rfl, -, hg, hnc, -, hcs, htake⟩
  · omega
  · have hall : ∀ c ∈ (symSt (recsB m) (symE m).n).1.map symCells, c.length = 13 := by
      intro c hc
      obtain ⟨i, hi, rfl⟩ := List.getElem_of_mem hc
      rw [List.length_map, symSt_len] at hi
      have h1 := symSt_get (recsB m) (symE m).n i hi
      have h2 := recs_eight h hi
      have h3 : (symSt (recsB m) (symE m).n).1[i]'(by rw [symSt_len]; exact hi) = coffAt (recsB m) i := (List.getElem?_eq_some_iff.1 h1).2
      rw [List.getElem_map, h3]
      exact sym_len h2
    refine ⟨g, cap, cur.toList, rfl, ⟨by simpa using hg, fun k hk j u hu => ?_, fun k hk => recs_eight h hk, ?_⟩⟩
    · have h1 := flatten_at _ 13 hall k (symCells (coffAt (recsB m) k)) (by rw [List.getElem?_map, symSt_get _ _ _ hk]; rfl) j u hu
      have h2 : (List.take ((symE m).n * 13) cur.toList)[k * 13 + j]? = some u := by rw [htake]; exact h1
      rw [List.getElem?_take] at h2
      split at h2
      · exact h2
      · cases h2
    · have := hown.1
      rw [← htake, List.length_take] at this
      omega

open Go Go.RowKit
attribute [local go_sem ↓] Go.wp_at_zero Go.wp_at_succ

set_option maxHeartbeats 1000000 in
theorem zzNewFile_any (n c : Nat) (A : Option Addr) (l : List UInt8) (f : FL) (w : World) (hN : Hid (n = l.length)) (hnc : n ≤ c) (hA : Hid (RB w A l)) (hF : Hid (FileOk l f)) :
    Calls Tryz.prog 22 #[.slice A n c] w fun e w' => ∃ w1, Below w.heap.size w w1 ∧ FilePost w1 l f e w' := by
  have R1 := Lib.hid (heap_alloc_new w (.cells #[.slice A n c, .int .i64 0, .int .i64 (-1)] 141))
  have A1 := Lib.hid (hA.out.later ((Below.refl _ w).alloc (Nat.le_refl _) (.cells #[.slice A n c, .int .i64 0, .int .i64 (-1)] 141)))
  have CALL := Lib.hid (newFile_any w.heap.size n c A l f (w.alloc (.cells #[.slice A n c, .int .i64 0, .int .i64 (-1)] 141)) hN hnc R1 A1 hF)
  go_enter Tryz.func22, Tryz.ntmps22
  go_wp2_with fail
  refine (newReader _ A n c rfl w).mono ?_
  rintro e w' ⟨rfl, rfl⟩
  go_wp2_with fail
  refine CALL.out.mono ?_
  rintro e w2 ⟨F, M, G, hd, ov, sy, cv, tv, bs, rfl, h⟩
  replace h := Lib.hid h
  go_wp2
  go_ret2
  exact ⟨_, (Below.refl _ _).alloc (Nat.le_refl _) _, F, M, G, hd, ov, sy, cv, tv, bs, rfl, h.out⟩

open Go Go.RowKit
attribute [local go_sem ↓] Go.wp_at_zero Go.wp_at_succ

/-- The numbers of an auxiliary record, and its cells. -/
theorem aux_six (s : List UInt8) : ∃ n0 n1 n2 n3 n4 n5 : Nat, nAux s = [n0, n1, n2, n3, n4, n5] ∧ auxCells (auxL s) = [.int .u32 n0, .int .u16 n1, .int .u16 n2, .int .u32 n3, .int .u16 n4, .int .u8 n5, .int .u8 0, .int .u8 0, .int .u8 0] ∧
    n0 < 4294967296 ∧ n1 < 65536 ∧ n2 < 65536 ∧ n3 < 4294967296 ∧ n4 < 65536 ∧ n5 < 256 :=
  ⟨_, _, _, _, _, _, rfl, auxCells_eq s, wrap_kind false s 4 4294967296 (by decide), wrap_kind false (s.drop 4) 2 65536 (by decide), wrap_kind false (s.drop 6) 2 65536 (by decide), wrap_kind false (s.drop 8) 4 4294967296 (by decide), wrap_kind false (s.drop 12) 2 65536 (by decide), wrap_kind false (s.drop 14) 1 256 (by decide)⟩

set_option maxHeartbeats 4000000 in
/-- Of a section's symbol with an auxiliary record: its numbers. -/
theorem implAux_ok (n c : Nat) (A : Option Addr) (m : MadeL) (k j : Nat) (y : SymL) (w : World) (hN : Hid (n = (fileB m).length)) (hA : Hid (RB w A (fileB m))) (hF : Hid (FileOk (fileB m) (flOf m))) (hM : Hid (MadeOk m))
    (hy : Hid (m.syms[j]? = some y)) (hk : Hid (startN m j = k)) (hc : Hid (y.cls = 3)) (ha : 0 < y.aux) :
    Calls Tryz.prog 6 #[.slice A n c, .int .i64 k] w fun e w' => (∃ g, e = .returned (.tuple #[.slice (some ⟨g, 0, none⟩) 6 6, .bool true]) ∧ Hid (RC w' (some ⟨g, 0, none⟩) 1 6 ((nAux (auxB 0 j)).map uv))) ∧ Below w.heap.size w w' := by
  have hn5 : n ≤ 100000 := by rw [hN.out]; exact hF.out.small
  go_enter Tryz.func6, Tryz.ntmps6
  go_wp2_with fail
  refine (copied_any A (fileB m) n c hN.out (by omega) w hA.out).mono ?_
  rintro e w1 ⟨⟨v, rfl, own1⟩, b1⟩
  obtain ⟨-, A1, c1, rfl, R1, hc1, -⟩ := RB.of_owns own1
  replace R1 := Lib.hid R1
  replace b1 := Lib.hid b1
  clear own1
  go_wp2_with fail
  refine (zzNewFile_any n c1 A1 (fileB m) (flOf m) w1 hN hc1 R1 hF).mono ?_
  rintro e w3 ⟨w2, b2, F, M, G, hd, ov, sy, cv, tv, bs, rfl, hd7, hFr, hGr, hbl, hSe, hSy, b3⟩
  have hend := startN_end hy.out
  rw [hk.out] at hend
  obtain ⟨g, cc, L, rfl, CR⟩ := coffRow_of hM.out hSy.out (by omega)
  have h10 : w3.cell? ⟨F, 10, none⟩ = some (.slice (some ⟨g, 0, none⟩) (symE m).n cc) := World.cell?_of_row hFr.out 10 _ (by rw [List.getElem?_append_right (by omega), hd7]; rfl)
  have h300 : (symE m).n ≤ 300 := hF.out.n300
  have bb : Hid (Below w.heap.size w w3) := Lib.hid ((b1.out.trans (b2.mono b1.out.size)).trans (b3.mono (Nat.le_trans b1.out.size b2.size)))
  have hcls : Hid ((coffAt (recsB m) k).cls = 3) := Lib.hid (by
    have := (at_start hM.out hy.out (by rw [hc.out]; decide)).1
    rw [hk.out, hc.out] at this
    exact this)
  have haux : Hid ((coffAt (recsB m) k).aux = (y.aux : Int)) := Lib.hid (by
    have := (at_start hM.out hy.out (by rw [hc.out]; decide)).2
    rw [hk.out] at this
    exact this)
  have hnx : Hid (coffAt (recsB m) (k + 1) = auxL (auxB 0 j)) := Lib.hid (by
    have := at_next hM.out hy.out ha
    rw [hk.out] at this
    exact this)
  have CALL := Lib.hid (secDef_ok F g (symE m).n cc k L (coffAt (recsB m)) w3 (by omega) h300 h10 (Lib.hid CR) hcls y.aux haux ha)
  rw [hnx.out] at CALL
  obtain ⟨n0, n1, n2, n3, n4, n5, eN, eC, l0, l1, l2, l3, l4, l5⟩ := aux_six (auxB 0 j)
  rw [eC] at CALL
  replace eN := Lib.hid eN
  clear eC hd7 hFr hGr hbl hSe hSy b2 b3 b1 R1 hN hA hF CR h10 hcls haux hnx hy hk hc
  go_wp2_with fail
  refine CALL.out.mono ?_
  rintro e w4 ⟨⟨Q, rfl, hQ⟩, b4⟩
  have b4' := Lib.hid (bb.out.trans (b4.mono bb.out.size))
  have d0 := World.cell?_of_row hQ.out 0 (.int .u32 (n0 : Int)) rfl
  have d1 := World.cell?_of_row hQ.out 1 (.int .u16 (n1 : Int)) rfl
  have d2 := World.cell?_of_row hQ.out 2 (.int .u16 (n2 : Int)) rfl
  have d3 := World.cell?_of_row hQ.out 3 (.int .u32 (n3 : Int)) rfl
  have d4 := World.cell?_of_row hQ.out 4 (.int .u16 (n4 : Int)) rfl
  have d5 := World.cell?_of_row hQ.out 5 (.int .u8 (n5 : Int)) rfl
  have v0 : IntKind.u64.wrap (n0 : Int) = (n0 : Int) := by rw [IntKind.wrap_u64]; omega
  have v1 : IntKind.u64.wrap (n1 : Int) = (n1 : Int) := by rw [IntKind.wrap_u64]; omega
  have v2 : IntKind.u64.wrap (n2 : Int) = (n2 : Int) := by rw [IntKind.wrap_u64]; omega
  have v3 : IntKind.u64.wrap (n3 : Int) = (n3 : Int) := by rw [IntKind.wrap_u64]; omega
  have v4 : IntKind.u64.wrap (n4 : Int) = (n4 : Int) := by rw [IntKind.wrap_u64]; omega
  have v5 : IntKind.u64.wrap (n5 : Int) = (n5 : Int) := by rw [IntKind.wrap_u64]; omega
  clear b4 CALL bb
  go_upto_region 7 with fail
  go_still_tail 30, (by kernel_rfl)
  change wpList _ _ _ _ _ w4.drew
  go_wp2
  go_ret2
  rw [eN.out]
  exact ⟨⟨_, rfl, Lib.hid (rc_newN (w := w4.drew) (vs := [n0, n1, n2, n3, n4, n5].map uv) rfl rfl)⟩, (b4'.out.drew).alloc (by have := b4'.out.size; exact this) _⟩

set_option maxHeartbeats 4000000 in
/-- Of another record: none. -/
theorem implAux_no (n c : Nat) (A : Option Addr) (m : MadeL) (k q a : Nat) (w : World) (hN : Hid (n = (fileB m).length)) (hA : Hid (RB w A (fileB m))) (hF : Hid (FileOk (fileB m) (flOf m))) (hM : Hid (MadeOk m))
    (hk : k < (symE m).n) (hq : Hid ((coffAt (recsB m) k).cls = (q : Int))) (ha : Hid ((coffAt (recsB m) k).aux = (a : Int))) (hqa : q ≠ 3 ∨ a = 0) :
    Calls Tryz.prog 6 #[.slice A n c, .int .i64 k] w fun e w' => e = .returned (.tuple #[.slice none 0 0, .bool false]) ∧ Below w.heap.size w w' := by
  have hn5 : n ≤ 100000 := by rw [hN.out]; exact hF.out.small
  go_enter Tryz.func6, Tryz.ntmps6
  go_wp2_with fail
  refine (copied_any A (fileB m) n c hN.out (by omega) w hA.out).mono ?_
  rintro e w1 ⟨⟨v, rfl, own1⟩, b1⟩
  obtain ⟨-, A1, c1, rfl, R1, hc1, -⟩ := RB.of_owns own1
  replace R1 := Lib.hid R1
  replace b1 := Lib.hid b1
  clear own1
  go_wp2_with fail
  refine (zzNewFile_any n c1 A1 (fileB m) (flOf m) w1 hN hc1 R1 hF).mono ?_
  rintro e w3 ⟨w2, b2, F, M, G, hd, ov, sy, cv, tv, bs, rfl, hd7, hFr, hGr, hbl, hSe, hSy, b3⟩
  obtain ⟨g, cc, L, rfl, CR⟩ := coffRow_of hM.out hSy.out (by omega)
  have h10 : w3.cell? ⟨F, 10, none⟩ = some (.slice (some ⟨g, 0, none⟩) (symE m).n cc) := World.cell?_of_row hFr.out 10 _ (by rw [List.getElem?_append_right (by omega), hd7]; rfl)
  have h300 : (symE m).n ≤ 300 := hF.out.n300
  have bb : Hid (Below w.heap.size w w3) := Lib.hid ((b1.out.trans (b2.mono b1.out.size)).trans (b3.mono (Nat.le_trans b1.out.size b2.size)))
  have CALL := Lib.hid (secDef_err F g (symE m).n cc k L (coffAt (recsB m)) w3 hk h300 h10 (Lib.hid CR) q a hq ha hqa)
  clear hd7 hFr hGr hbl hSe hSy b2 b3 b1 R1 hN hA hF CR h10 hq ha hqa
  go_wp2_with fail
  refine CALL.out.mono ?_
  rintro e w4 ⟨⟨T, v, rfl⟩, b4⟩
  have b4' := Lib.hid (bb.out.trans (b4.mono bb.out.size))
  clear b4 CALL bb
  go_wp2
  go_ret2
  exact ⟨rfl, b4'.out⟩
/-- What is told of record k. -/
def GotV (w : World) (m : MadeL) (k : Nat) (v : Value) (b : Bool) : Prop :=
  (∃ j y, m.syms[j]? = some y ∧ startN m j = k ∧ y.cls = 3 ∧ 0 < y.aux ∧ b = true ∧ ∃ g, v = .slice (some ⟨g, 0, none⟩) 6 6 ∧ RC w (some ⟨g, 0, none⟩) 1 6 ((nAux (auxB 0 j)).map uv)) ∨
    (b = false ∧ v = .slice none 0 0 ∧ ∀ j y, m.syms[j]? = some y → startN m j = k → y.cls ≠ 3 ∨ y.aux = 0)
theorem implAux_any (n c : Nat) (A : Option Addr) (m : MadeL) (k : Nat) (w : World) (hN : Hid (n = (fileB m).length)) (hA : Hid (RB w A (fileB m))) (hF : Hid (FileOk (fileB m) (flOf m))) (hM : Hid (MadeOk m)) (hC : Hid (∀ y ∈ m.syms, y.cls < 256)) (hk : k < (symE m).n) :
    Calls Tryz.prog 6 #[.slice A n c, .int .i64 k] w fun e w' => (∃ v b, e = .returned (.tuple #[v, .bool b]) ∧ Hid (GotV w' m k v b)) ∧ Below w.heap.size w w' := by
  by_cases h : ∃ j y, m.syms[j]? = some y ∧ startN m j = k
  · obtain ⟨j, y, hy, hjk⟩ := h
    have hj := (List.getElem?_eq_some_iff.1 hy).1
    by_cases h3 : y.cls = 3 ∧ 0 < y.aux
    · refine (implAux_ok n c A m k j y w hN hA hF hM (Lib.hid hy) (Lib.hid hjk) (Lib.hid h3.1) h3.2).mono ?_
      rintro e w' ⟨⟨g, rfl, hR⟩, b⟩
      exact ⟨⟨_, _, rfl, Lib.hid (.inl ⟨j, y, hy, hjk, h3.1, h3.2, rfl, g, rfl, hR.out⟩)⟩, b⟩
    · have hs := at_start hM.out hy (hC.out y (List.mem_of_getElem? hy))
      rw [hjk] at hs
      refine (implAux_no n c A m k y.cls y.aux w hN hA hF hM hk (Lib.hid hs.1) (Lib.hid hs.2) (by omega)).mono ?_
      rintro e w' ⟨rfl, b⟩
      refine ⟨⟨_, _, rfl, Lib.hid (.inr ⟨rfl, rfl, fun i x hx hxk => ?_⟩)⟩, b⟩
      have hi := (List.getElem?_eq_some_iff.1 hx).1
      obtain rfl : i = j := startN_inj hi hj (hxk.trans hjk.symm)
      rw [hy] at hx
      obtain rfl := Option.some.inj hx
      omega
  · have hs := at_other hM.out hk (fun j hj e => h ⟨j, _, List.getElem?_eq_getElem hj, e⟩)
    refine (implAux_no n c A m k 0 0 w hN hA hF hM hk (Lib.hid hs.1) (Lib.hid hs.2) (.inr rfl)).mono ?_
    rintro e w' ⟨rfl, b⟩
    exact ⟨⟨_, _, rfl, Lib.hid (.inr ⟨rfl, rfl, fun i x hx hxk => absurd ⟨i, x, hx, hxk⟩ h⟩)⟩, b⟩

open Go Go.RowKit Go.Maps
attribute [local go_sem ↓] Go.wp_at_zero Go.wp_at_succ

/-- A row of numbers of 32 bits that came in. -/
theorem IsRow.words {w : World} {a : Option Addr} {len cap : Nat} {zs : List Int} (h : IsRow .u32 w a len cap zs) : ∃ ps : List Nat, len = ps.length ∧ RC w a 1 ps.length (ps.map fun n : Nat => Value.int .u32 n) ∧ len ≤ cap ∧ ∀ v ∈ ps, v < 4294967296 := by
  rcases h with ⟨rfl, rfl, rfl, rfl⟩ | ⟨x, rfl, hl, hm, hz, hcell, hwf⟩
  · exact ⟨[], rfl, ⟨rfl, fun h => absurd h (Nat.lt_irrefl 0)⟩, Nat.le_refl _, fun v hv => by simp at hv⟩
  · have hb : ∀ n ∈ zs, 0 ≤ n ∧ n < 4294967296 := fun n hn => by
      have := hwf n hn
      simp [Lit.wf, IntKind.min, IntKind.max, IntKind.signed, IntKind.bits] at this
      omega
    refine ⟨(zs.take len).map Int.toNat, by simp; omega, ⟨by simp, fun _ => ⟨x, rfl, fun j u hu => ?_⟩⟩, hl, fun v hv => ?_⟩
    · rw [List.getElem?_map, List.getElem?_map, List.getElem?_take] at hu
      split at hu
      · rename_i hj
        have hjz : j < zs.length := by omega
        rw [hcell j hjz, ← hu, List.getElem?_eq_getElem hjz]
        have h0 := hb zs[j] (List.getElem_mem hjz)
        simp only [Option.map_some, List.getD_eq_getElem?_getD, List.getElem?_eq_getElem hjz, Option.getD_some]
        rw [Int.toNat_of_nonneg h0.1]
      · simp at hu
    · obtain ⟨n, hn, rfl⟩ := List.mem_map.1 hv
      have := hb n (List.mem_of_mem_take hn)
      omega
theorem bitsLt_none {m : MadeL} (h : m.bits = []) : BitsLt m := fun k b hb => by
  rw [h] at hb
  simp at hb
theorem sym_lt {w : World} {s : MadeS} {m : MadeL} (hV : MadeV w s m) : ∀ y ∈ m.syms, y.cls < 256 := fun y hy => by
  obtain ⟨k, hk, rfl⟩ := List.getElem_of_mem hy
  obtain ⟨g, o, g', o', x, -, -, hx, ⟨-, -, -, -, h5⟩, -⟩ := sym_cells hV (SA := s.S) (XA := s.X) rfl rfl k hk
  rw [List.getElem?_eq_getElem hk] at hx
  obtain rfl := Option.some.inj hx
  exact h5
/-- The map of the records' places, after the first k symbols. -/
def dmap (m : MadeL) : Nat → DataW Unit
  | 0 => .map []
  | k + 1 => (dmap m k).put (.int .i64 (startN m k : Int)) (.lit (.int .i64 (k : Int)))
theorem dmap_isMap (m : MadeL) : ∀ k, Maps.IsMap (dmap m k)
  | 0 => Maps.isMap_empty
  | k + 1 => (dmap_isMap m k).put _ _
theorem dmap_hit {m : MadeL} {j : Nat} : ∀ k, k ≤ m.syms.length → j < k → Maps.has (dmap m k) (.int .i64 (startN m j : Int)) = true ∧ ∀ z, (dmap m k).atKey (.int .i64 (startN m j : Int)) z = .lit (.int .i64 (j : Int))
  | 0, _, h => absurd h (Nat.not_lt_zero j)
  | k + 1, hk, h => by
    by_cases hjk : j = k
    · subst hjk
      exact ⟨Maps.has_put_same (dmap_isMap m j) (k := .int .i64 (startN m j : Int)) True.intro _, fun z => Maps.atKey_put_same (dmap_isMap m j) (k := .int .i64 (startN m j : Int)) True.intro _ z⟩
    · have ih := dmap_hit (m := m) (j := j) k (by omega) (by omega)
      have hlt := startN_lt (m := m) (i := j) (j := k) (by omega) (by omega)
      have hne : (Lit.int .i64 (startN m j : Int)) ≠ .int .i64 (startN m k : Int) := fun e => by
        simp only [Lit.int.injEq] at e
        omega
      exact ⟨(Maps.has_put_other hne _).trans ih.1, fun z => (Maps.atKey_put_other hne _ z).trans (ih.2 z)⟩
theorem dmap_miss {m : MadeL} {x : Nat} : ∀ k, (∀ j, j < k → startN m j ≠ x) → Maps.has (dmap m k) (.int .i64 (x : Int)) = false
  | 0, _ => rfl
  | k + 1, h => by
    have ih := dmap_miss (m := m) (x := x) k (fun j hj => h j (by omega))
    have hk := h k (by omega)
    have hne : (Lit.int .i64 (x : Int)) ≠ .int .i64 (startN m k : Int) := fun e => by
      simp only [Lit.int.injEq] at e
      omega
    exact (Maps.has_put_other hne _).trans ih
theorem zeroI (w : World) : (zeroValue 3).run Tryz.prog w = .ok (.int .i64 0) w := by kernel_rfl
theorem startN_le18 {m : MadeL} (h : MadeOk m) {k : Nat} (hk : k ≤ m.syms.length) : startN m k ≤ 18 := by
  have := (symSt_len' (t0 := (secE m).texts) h.syms k hk).2.2
  have h6 := h.s6
  show (symStL (secE m).texts m.syms k).n ≤ 18
  omega

set_option maxHeartbeats 8000000 in
theorem law_FnPeAuxOf (a0 : Int) (a1 : Option Addr) (len1 cap1 : Nat) (z1 : List Int) (a2 : Int) (w : World) (w0 : (Lit.int .u32 a0).wf = true) (w1 : IsRow .u32 w a1 len1 cap1 z1) (w2 : (Lit.int .u8 a2).wf = true) :
    Calls Tryz.prog 3 #[.int .u32 a0, .slice a1 len1 cap1, .int .u8 a2] w fun e w' => e = .returned (.bool true) ∧ Below w.heap.size w w' := by
  obtain ⟨F, rfl, hF⟩ : ∃ F : Nat, a0 = (F : Int) ∧ F < 4294967296 := by
    simp [Lit.wf, IntKind.min, IntKind.max, IntKind.signed, IntKind.bits] at w0
    exact ⟨a0.toNat, by omega, by omega⟩
  obtain ⟨Q, rfl, hQ⟩ : ∃ Q : Nat, a2 = (Q : Int) ∧ Q < 256 := by
    simp [Lit.wf, IntKind.min, IntKind.max, IntKind.signed, IntKind.bits] at w2
    exact ⟨a2.toNat, by omega, by omega⟩
  obtain ⟨ps, hlen, hrc, hcap, hlt⟩ := w1.words
  rw [hlen] at hcap
  rw [hlen]
  clear hlen w0 w1 w2
  replace hrc := Lib.hid hrc
  replace hlt := Lib.hid hlt
  by_cases hbig : 2147483647 < ps.length
  · clear hrc hlt
    go_enter Tryz.func3, Tryz.ntmps3
    go_wp2
    go_ret
    exact ⟨rfl, Below.refl _ _⟩
  · have CALL1 := Lib.hid (lawsPeOfS_any F hF a1 ps cap1 w hcap hlt hrc)
    have hmm := @run_makeMap Tryz.prog
    clear hrc hlt
    go_enter Tryz.func3, Tryz.ntmps3
    go_wp2_with fail
    refine CALL1.out.mono ?_
    rintro e w1 ⟨s, m, rfl, MV, MO, hbi, b1⟩
    have hs0 : Hid (m.bits.length = 0) := Lib.hid (by rw [hbi.out]; rfl)
    replace b1 := Lib.hid b1
    obtain ⟨wM, eM⟩ : ∃ w', w1.alloc (.cells (s.cells m).toArray 30) = w' := ⟨_, rfl⟩
    have blM : Below w1.heap.size w1 wM := by rw [← eM]; exact (Below.refl _ w1).alloc (Nat.le_refl _) _
    have MVM := Lib.hid (MV.out.later blM)
    have gM : Hid (wM.heap[w1.heap.size]? = some (.cells (s.cells m).toArray 30 (0, 0))) := Lib.hid (by rw [← eM]; exact heap_alloc_new w1 _)
    have bM := Lib.hid (b1.out.trans (blM.mono b1.out.size))
    replace eM := Lib.hid eM
    clear CALL1 MV b1 blM
    have e10 : (s.cells m).toArray = #[.int .i64 m.stub, .int .u16 m.machine, .int .u32 m.time, .int .u16 m.flags, .int .i64 s.kind, .slice s.N s.nums.length s.nc, .slice s.D s.dirs.length s.dc, .slice s.B m.bits.length s.bc, .slice s.S m.syms.length s.sc, .slice s.X m.syms.length s.xc] := rfl
    rw [e10] at eM gM
    rw [e10]
    clear e10
    go_upto_region 4 with fail
    rw [eM.out]
    obtain ⟨BM, eBM⟩ : ∃ b, w1.heap.size = b := ⟨_, rfl⟩
    rw [eBM] at gM
    rw [eBM]
    have k0 := World.cell?_of_row gM.out 0 _ rfl
    have k1 := World.cell?_of_row gM.out 1 _ rfl
    have k2 := World.cell?_of_row gM.out 2 _ rfl
    have k3 := World.cell?_of_row gM.out 3 _ rfl
    have k4 := World.cell?_of_row gM.out 4 _ rfl
    have k5 := World.cell?_of_row gM.out 5 _ rfl
    have k6 := World.cell?_of_row gM.out 6 _ rfl
    have k7 := World.cell?_of_row gM.out 7 _ rfl
    have k8 := World.cell?_of_row gM.out 8 _ rfl
    have k9 := World.cell?_of_row gM.out 9 _ rfl
    clear eM eBM
    go_wp2_with fail
    refine (peOf2_any s m wM MVM MO hs0).mono ?_
    rintro e w2 ⟨x0, x1, x2, x3, x5, x7, VP, cp, VC, cc, A, ca, pcs, rfl, hca, RA, RP, RS, b2, hone⟩
    clear k0 k1 k2 k3 k4 k5 k6 k7 k8 k9
    replace b2 := Lib.hid b2
    have h1 : Hid (∀ v ∈ (#[x0, x1, x2, x3, .slice VP m.bits.length cp, x5, .slice VC (symE m).n cc, x7] : Array Value).toList, v.oneCell' = true) := Lib.hid (by
      intro v hv
      simp only [List.mem_cons, List.not_mem_nil, or_false] at hv hone
      rcases hv with rfl | rfl | rfl | rfl | rfl | rfl | rfl | rfl <;> first | rfl | exact hone _ (by simp))
    have hi30 : Hid ((Tryz.prog.info? 36).map (·.size) = some 8) := Lib.hid (by kernel_rfl)
    have g0 := Lib.hid (heap_alloc_new w2 (.cells #[.slice none 0 0, .int .i64 0, .slice none 0 0, .slice none 0 0, .slice none 0 0, .slice none 0 0, .slice none 0 0, .slice none 0 0] 36))
    have OK : Hid (OptOk m.opt) := Lib.hid (by rw [MVM.out.opt]; exact MVM.out.ov.ok)
    have BL : Hid (BitsLt m) := Lib.hid (bitsLt_none hbi.out)
    have HC : Hid (∀ y ∈ m.syms, y.cls < 256) := Lib.hid (sym_lt MVM.out)
    have hs6 := MO.out.s6
    have hn18 : (symE m).n ≤ 18 := startN_le18 MO.out (Nat.le_refl _)
    clear hone hs0
    go_wp2_with (refine wpList_store_row rfl 36 (.tmp 8) (.tmp 29) rfl w2.heap.size 36 _ #[x0, x1, x2, x3, .slice VP m.bits.length cp, x5, .slice VC (symE m).n cc, x7] rfl rfl g0.out rfl hi30.out h1.out ?_; refine Stop.mk ?_)
    refine Stop.go ?_
    rw [World.setRow_alloc_new]
    have g3 : (w2.alloc (.cells #[x0, x1, x2, x3, .slice VP m.bits.length cp, x5, .slice VC (symE m).n cc, x7] 36)).heap[w2.heap.size]? = some (.cells ([x0, x1, x2, x3, .slice VP m.bits.length cp, x5, .slice VC (symE m).n cc, x7] : List Value).toArray 36 (0, 0)) := heap_alloc_new w2 _
    have b23 : Hid (Below w2.heap.size w2 (w2.alloc (.cells #[x0, x1, x2, x3, .slice VP m.bits.length cp, x5, .slice VC (symE m).n cc, x7] 36))) := Lib.hid ((Below.refl _ _).alloc (Nat.le_refl _) _)
    obtain ⟨w3, e3⟩ : ∃ w3, w2.alloc (.cells #[x0, x1, x2, x3, .slice VP m.bits.length cp, x5, .slice VC (symE m).n cc, x7] 36) = w3 := ⟨_, rfl⟩
    rw [e3] at g3 b23 ⊢
    have c6 := World.cell?_of_row g3 6 (.slice VC (symE m).n cc) rfl
    have bM3 : Hid (Below wM.heap.size wM w3) := Lib.hid (b2.out.trans (b23.out.mono b2.out.size))
    have RA3 := Lib.hid (RA.out.later b23.out)
    have MV3 := Lib.hid (MVM.out.later bM3.out)
    have g3M := row_later bM3.out gM
    have b03 := Lib.hid (bM.out.trans (bM3.out.mono bM.out.size))
    clear e3 g0 h1 hi30 g3 RA RP RS b2 b23 MVM gM bM bM3
    by_cases hn0 : (symE m).n = 0
    · have hn0' : (((symE m).n : Int) == 0) = true := by rw [hn0]; rfl
      go_wp2
      go_ret
      exact ⟨rfl, b03.out⟩
    · have hn0' : (((symE m).n : Int) == 0) = false := by rw [beq_eq_false_iff_ne]; omega
      by_cases h96 : (fileB m).length < 96
      · go_wp2
        go_ret
        exact ⟨rfl, b03.out⟩
      ·
        --[M
        obtain ⟨K1, hK1, hK2⟩ : ∃ K1 : Nat, (Q : Int) % ((symE m).n : Int) = (K1 : Int) ∧ K1 < (symE m).n := ⟨Q % (symE m).n, by omega, Nat.mod_lt _ (by omega)⟩
        have hK3 : Int.tmod (Q : Int) ((symE m).n : Int) = (K1 : Int) := by rw [Int.tmod_eq_emod_of_nonneg (by omega), hK1]
        have hFO : Hid (FileOk (fileB m) (flOf m)) := Lib.hid (file_laid MO.out OK.out BL.out (by omega) (syms_laid MO.out))
        have CALL := Lib.hid (implAux_any (fileB m).length ca A m K1 w3 (Lib.hid rfl) RA3 hFO MO HC hK2)
        go_wp2_with fail
        refine CALL.out.mono ?_
        rintro e w5 ⟨⟨v, bb, rfl, hG⟩, b5⟩
        have g5M := row_later b5 g3M
        have MV5 := Lib.hid (MV3.out.later b5)
        have b05 := Lib.hid (b03.out.trans (b5.mono b03.out.size))
        have hBM : BM < w5.heap.size := (Array.getElem?_eq_some_iff.1 g5M.out).1
        clear CALL hFO b5 g3M MV3 b03 c6 RA3 hK1 hK3
        have k8 := World.cell?_of_row g5M.out 8 (.slice s.S m.syms.length s.sc) rfl
        have bl6 := Lib.hid ((Below.refl w5.heap.size w5).alloc (Nat.le_refl _) (.map #[] 0))
        have k8' := (bl6.out.cell (p := ⟨BM, 8, none⟩) hBM).trans k8
        obtain ⟨SA, hSA⟩ : ∃ A, s.S = A := ⟨_, rfl⟩
        obtain ⟨XA, hXA⟩ : ∃ A, s.X = A := ⟨_, rfl⟩
        have hnames := Lib.hid (sym_cells MV5.out hSA hXA)
        replace hSA := Lib.hid hSA
        replace hXA := Lib.hid hXA
        go_wp2_with fail
        go_loopw [14, 56] (fun c14 i wx => ∃ k : Nat, k ≤ m.syms.length ∧ i = .int .i64 k ∧ c14 = .int .i64 (startN m k : Int) ∧
          Hid (wx.ownsMap Tryz.prog 3 (plainElem (H := Unit) Tryz.prog 3) w5.heap.size k (dmap m k)) ∧ Hid (Below w5.heap.size w5 wx)) (fun _ i _ => m.syms.length - (intOf i).toNat)
        case atStart => exact ⟨0, Nat.zero_le _, rfl, rfl, Lib.hid (World.ownsMap_made _ _ _ _), bl6⟩
        case round =>
          obtain ⟨k, hk, rfl, rfl, hown, hbl⟩ := hrel
          have hst18 := startN_le18 MO.out hk
          by_cases hkn : k < m.syms.length
          ·
            --[R
            obtain ⟨g, o, g', o', y, hSA', hXA', hy, -, -, -, -, -, -, q5⟩ := hnames.out k hkn
            have hax := (MO.out.syms y (List.mem_of_getElem? hy)).aux
            have hsucc := startN_succ hy
            have q5' := (World.block_lt_of_cell? w5 _ q5)
            have hkey := keyOf_int_mk (P := Tryz.prog) Tryz.underlying3 (a := (startN m k : Int)) (q := .i64) (WalkArith.wf_i64 (by omega))
            have k9 := World.cell?_of_row g5M.out 9 (.slice s.X m.syms.length s.xc) rfl
            rw [hXA.out, hXA'] at k9
            have hsucc' : (startN m k : Int) + (1 + (y.aux : Int)) = (startN m (k + 1) : Int) := by rw [hsucc]; omega
            replace hsucc' := Lib.hid hsucc'
            clear hsucc hy hnames
            go_wp2_with (first
              | (at_mapUpdate; refine wpList_mapUpdate_own _ rfl _ _ _ 41 rfl 3 3 (int_keyed Tryz.underlying3) Tryz.underlying41 _ w5.heap.size k _ rfl hown.out (by unfold maxLen; omega) _ _ _ rfl rfl hkey _ [] (plainElem_int Tryz.underlying3 (WalkArith.wf_i64 (by omega))) ?_; intro w6 hown6 hgrow6; have hbl6 := Lib.hid (hbl.out.grown hgrow6 hbl.out.size (fun q hq => by cases hq; exact Nat.le_refl _)); have k9' := (hbl6.out.cell (p := ⟨BM, 9, none⟩) hBM).trans k9; have q6 := (hbl6.out.cell (p := ⟨g', o' + k, none⟩) q5').trans q5; replace hown6 := Lib.hid hown6; clear hgrow6)
              | fail)
            go_roundw
            case rel => exact ⟨k + 1, by omega, by go_num, by rw [← hsucc'.out], hown6, hbl6⟩
            case measure => simp [intOf]; omega
            --]R
          ·
            --[X
            obtain rfl : k = m.syms.length := by omega
            have hkey := keyOf_int_mk (P := Tryz.prog) Tryz.underlying3 (a := (K1 : Int)) (q := .i64) (WalkArith.wf_i64 (by omega))
            have bw := Lib.hid (b05.out.trans (hbl.out.mono b05.out.size))
            by_cases hst : ∃ j y, m.syms[j]? = some y ∧ startN m j = K1
            · obtain ⟨j, y, hy, hjk⟩ := hst
              have hjn := (List.getElem?_eq_some_iff.1 hy).1
              obtain ⟨hh1, hh2⟩ := dmap_hit (m := m) (j := j) m.syms.length (Nat.le_refl _) hjn
              rw [hjk] at hh1 hh2
              replace hh1 := Lib.hid hh1
              replace hh2 := Lib.hid hh2
              obtain ⟨g, o, g', o', y', hSA', hXA', hy', ⟨-, -, -, -, y5⟩, -, -, -, -, q4, q5⟩ := hnames.out j hjn
              rw [hy] at hy'
              obtain rfl := Option.some.inj hy'
              have hax := (MO.out.syms y (List.mem_of_getElem? hy)).aux
              have q4' := (hbl.out.cell (p := ⟨g, o + j * 5 + 4, none⟩) (World.block_lt_of_cell? w5 _ q4)).trans q4
              have q5' := (hbl.out.cell (p := ⟨g', o' + j, none⟩) (World.block_lt_of_cell? w5 _ q5)).trans q5
              have k8 := (hbl.out.cell (p := ⟨BM, 8, none⟩) hBM).trans (World.cell?_of_row g5M.out 8 (.slice s.S m.syms.length s.sc) rfl)
              have k9 := (hbl.out.cell (p := ⟨BM, 9, none⟩) hBM).trans (World.cell?_of_row g5M.out 9 (.slice s.X m.syms.length s.xc) rfl)
              rw [hXA.out, hXA'] at k9
              rw [hSA.out, hSA'] at k8
              clear q4 q5 hnames
              replace hy := Lib.hid hy
              replace hjk := Lib.hid hjk
              go_upto_region 18 with (first
                | (at_lookup; refine wpList_lookup_own_ok_int _ rfl _ _ 41 rfl 3 3 .i64 (int_keyed Tryz.underlying3) Tryz.underlying41 Tryz.underlying3 (zeroI _) w5.heap.size _ _ rfl hown.out _ _ rfl hkey ?_; intro c hat hwc; rw [hh1.out]; (obtain rfl : (j : Int) = c := by have h2 := (hh2.out _).symm.trans hat; simpa using h2); clear hat hwc)
                | fail)
              clear hown hh1 hh2 hkey hmm
              rcases hG.out with ⟨j', y', hy', hjk', h3', ha', rfl, gv, rfl, RV⟩ | ⟨rfl, rfl, hno⟩
              · have hj' := (List.getElem?_eq_some_iff.1 hy').1
                obtain rfl : j' = j := startN_inj hj' hjn (hjk'.trans hjk.out.symm)
                rw [hy.out] at hy'
                obtain rfl := Option.some.inj hy'
                have h3b : ((y.cls : Int) != 3) = false := by rw [h3']; rfl
                have hab : ((y.aux : Int) == 0) = false := by rw [beq_eq_false_iff_ne]; omega
                have RVw := Lib.hid (rc_later RV hbl.out)
                clear hG RV hy' hjk'
                go_upto_region 22 with fail
                go_wp2_with fail
                refine (peAux_any _).mono ?_
                rintro e w7 ⟨⟨va, rfl, Ra⟩, b7⟩
                have hwj : IntKind.u8.wrap (j' : Int) = (j' : Int) := by rw [IntKind.wrap_u8]; omega
                have RV7 := Lib.hid (rc_later RVw.out b7)
                have bw7 := Lib.hid (bw.out.trans (b7.mono bw.out.size))
                have e18 : (.cells #[.int .u8 1, .int .u8 (j' : Int), .int .u8 3, .int .u8 4, .int .u8 5, .int .u8 6, .int .u8 7, .int .u8 8, .int .u8 9, .int .u8 10, .int .u8 11, .int .u8 12, .int .u8 13, .int .u8 14, .int .u8 15, .int .u8 16, .int .u8 17, .int .u8 18] 5 : Obj) = .cells ((auxB 0 j').map bv).toArray 5 := by rw [aux_cells 0 j' (by omega) (by omega)]; rfl
                have bl8 : Below w7.heap.size w7 (w7.alloc (.cells ((auxB 0 j').map bv).toArray 5)) := (Below.refl _ w7).alloc (Nat.le_refl _) _
                have RB8 : Hid (RB (w7.alloc (.cells ((auxB 0 j').map bv).toArray 5)) (some ⟨w7.heap.size, 0, none⟩) (auxB 0 j')) := Lib.hid (RT.bytes (RT.new rfl))
                have Ra8 := Lib.hid (rc_later Ra bl8)
                have RV8 := Lib.hid (rc_later RV7.out bl8)
                have bw8 := Lib.hid (bw7.out.trans (bl8.mono bw7.out.size))
                have eN : Hid (numsOf false [4, 2, 2, 4, 2, 1, -3] (auxB 0 j') = nAux (auxB 0 j')) := Lib.hid (by rw [← nAux_eq]; rfl)
                have hlN : Hid ((numsOf false [4, 2, 2, 4, 2, 1, -3] (auxB 0 j')).length = 6) := Lib.hid (by rw [eN.out]; rfl)
                have CALLF := Lib.hid (fields_ok false (some ⟨w7.heap.size, 0, none⟩) va (auxB 0 j') [4, 2, 2, 4, 2, 1, -3] 18 18 7 7 (Lib.hid rfl) (by omega) (by omega) (Lib.hid rfl) (by omega) (Lib.hid (by decide)) _ RB8 Ra8 (Lib.hid (by rw [auxB_len]; decide)) 6 hlN)
                clear Ra b7 bl8 Ra8 RV7 bw7 bw RVw
                have hwn : w7.alloc (.cells #[.int .u8 1, .int .u8 (j' : Int), .int .u8 3, .int .u8 4, .int .u8 5, .int .u8 6, .int .u8 7, .int .u8 8, .int .u8 9, .int .u8 10, .int .u8 11, .int .u8 12, .int .u8 13, .int .u8 14, .int .u8 15, .int .u8 16, .int .u8 17, .int .u8 18] 5) = w7.alloc (.cells ((auxB 0 j').map bv).toArray 5) := by rw [e18]
                rw [← hwn] at CALLF RV8 bw8
                clear RB8 hwn e18
                go_wp2_with fail
                refine CALLF.out.mono ?_
                rintro e w9 ⟨⟨B9, d9, rfl, R9⟩, b9⟩
                rw [eN.out] at R9
                have RV9 := Lib.hid (rc_later RV8.out b9)
                have bw9 := Lib.hid (bw8.out.trans (b9.mono bw8.out.size))
                clear CALLF RV8 bw8 b9
                go_wp2_with fail
                refine (same_yes (some ⟨gv, 0, none⟩) B9 6 6 d9 (nAux (auxB 0 j')) w9 (by omega) RV9.out R9.out.rc).mono ?_
                rintro e w10 ⟨rfl, q, rfl⟩
                go_wp2
                go_ret
                exact ⟨rfl, below_drewN bw9.out q⟩
              · have hno' := hno j y hy.out hjk.out
                clear hno hG
                by_cases h3 : y.cls = 3
                · have ha0 : y.aux = 0 := by omega
                  have h3b : ((y.cls : Int) != 3) = false := by rw [h3]; rfl
                  have hab : ((y.aux : Int) == 0) = true := by rw [ha0]; rfl
                  go_wp2
                  go_ret
                  exact ⟨rfl, bw.out⟩
                · have h3b : ((y.cls : Int) != 3) = true := by rw [bne, beq_eq_false_iff_ne.2 (by omega)]; rfl
                  go_wp2
                  go_ret
                  exact ⟨rfl, bw.out⟩
            · have hms := dmap_miss (m := m) (x := K1) m.syms.length (fun j hj e => hst ⟨j, _, List.getElem?_eq_getElem hj, e⟩)
              replace hms := Lib.hid hms
              clear hst hG hnames
              go_upto_region 18 with (first
                | (at_lookup; refine wpList_lookup_own_ok_int _ rfl _ _ 41 rfl 3 3 .i64 (int_keyed Tryz.underlying3) Tryz.underlying41 Tryz.underlying3 (zeroI _) w5.heap.size _ _ rfl hown.out _ _ rfl hkey ?_; intro c hat hwc; rw [hms.out]; clear hat hwc)
                | fail)
              go_wp2
              go_ret
              exact ⟨rfl, bw.out⟩
            --]X
        --]M

open Go Go.ChangeShapes Go.WideShapes Go.RowKit

/-- The listed variables. -/
@[reducible] def laid10 : List (String × DataW Unit) := [("math/bits.deBruijn32tab", Rows.laid_math_bits_deBruijn32tab), ("math/bits.deBruijn64tab", Rows.laid_math_bits_deBruijn64tab), ("internal/strconv.uint64pow10", Rows.laid_internal_strconv_uint64pow10), ("strconv.ErrRange", Rows.laid_strconv_ErrRange), ("strconv.ErrSyntax", Rows.laid_strconv_ErrSyntax), ("io.ErrShortBuffer", Rows.laid_io_ErrShortBuffer), ("io.EOF", Rows.laid_io_EOF), ("io.ErrUnexpectedEOF", Rows.laid_io_ErrUnexpectedEOF), ("io.errWhence", Rows.laid_io_errWhence), ("io.errOffset", Rows.laid_io_errOffset)]

theorem Door.met (os : Os) (args : Array Value) : laidMetH Tryz.prog laid10 ((World.doorLaid Tryz.prog 158 os).forCall (fun _ _ => 0) ⟨#[], args, []⟩).memory :=
  laidMetH_of_parts3 (fuel := 8) (laidMet_of_run' 8 (by kernel_rfl) (by kernel_rfl)) (by kernel_rfl) (by kernel_rfl)
end Go.Proofs.YtbpebngjpecncaaGreatDoor
