/-
  The first section with a name: File.Section, the thin package's PePartOf.
  The law of the first section with a name, walked.
  A start that meets the condition on the listed variables.
-/
import Derived.Test.YtbpebngjpecncaaDoorNewFile
import Derived.LaidEqlPtr
import Derived.Test.YtbpebngjpecncaaDoorLPeOf
import Derived.Test.YtbpebngjpecncaaDoorPeOf1
import Derived.Deep.WholeRow
import Derived.Test.YtbpebngjpecncaaDoorRows
import Derived.ProofKit
import Derived.LaidMore
import Derived.LaidLaws
import Derived.LaidEql
import Derived.MakeChecks
import Derived.OpenShut
import Derived.Stop.Joined
namespace Go.Proofs.YtbpebngjpecncaaDoor
set_option linter.unusedVariables false
set_option linter.unusedSimpArgs false
set_option maxRecDepth 100000
open Go Go.RowKit
attribute [local go_sem ↓] Go.wp_at_zero Go.wp_at_succ

/-- The place of the first of a name; -1 of none. -/
def firstIx (nm : List UInt8) : List (List UInt8) → Option Nat
  | [] => none
  | x :: r => if x = nm then some 0 else (firstIx nm r).map (· + 1)
def firstI (nm : List UInt8) (names : List (List UInt8)) : Int := match firstIx nm names with
  | some k => (k : Int)
  | none => -1
theorem firstIx_some (nm : List UInt8) : ∀ (names : List (List UInt8)) (k : Nat), names[k]? = some nm → (∀ j : Nat, j < k → names[j]? ≠ some nm) → firstIx nm names = some k
  | [], k, h, _ => by simp at h
  | x :: r, 0, h, _ => by
    simp at h
    rw [firstIx, if_pos h]
  | x :: r, k + 1, h, hj => by
    have h0 : x ≠ nm := fun e => hj 0 (by omega) (by simp [e])
    rw [firstIx, if_neg h0, firstIx_some nm r k (by simpa using h) (fun j hjk => by have := hj (j + 1) (by omega); simpa using this)]
    rfl
theorem firstIx_none (nm : List UInt8) : ∀ (names : List (List UInt8)), (∀ j : Nat, names[j]? ≠ some nm) → firstIx nm names = none
  | [], _ => rfl
  | x :: r, h => by
    have h0 : x ≠ nm := fun e => h 0 (by simp [e])
    rw [firstIx, if_neg h0, firstIx_none nm r (fun j => by have := h (j + 1); simpa using this)]
    rfl
theorem firstI_some {nm : List UInt8} {names : List (List UInt8)} {k : Nat} (h : names[k]? = some nm) (hj : ∀ j : Nat, j < k → names[j]? ≠ some nm) : firstI nm names = (k : Int) := by
  unfold firstI
  rw [firstIx_some nm names k h hj]
theorem firstI_none {nm : List UInt8} {names : List (List UInt8)} (h : ∀ j : Nat, names[j]? ≠ some nm) : firstI nm names = -1 := by
  unfold firstI
  rw [firstIx_none nm names h]
/-- What is known of a file that was read. -/
structure FileAt (w : World) (F G : Nat) (l : List UInt8) (names : List (List UInt8)) (bs : List Nat) : Prop where
  c8 : w.cell? ⟨F, 8, none⟩ = some (.slice (some ⟨G, 0, none⟩) names.length names.length)
  g : ∀ (k S : Nat), bs[k]? = some S → w.cell? ⟨G, k, none⟩ = some (.pointer (some ⟨S, 0, none⟩))
  len : bs.length = names.length
  s : ∀ (k S : Nat) (nm : List UInt8), bs[k]? = some S → names[k]? = some nm → w.cell? ⟨S, 0, none⟩ = some (.string ⟨nm.toArray⟩)
  nb : names.length ≤ 1000
  r : ∀ (k S : Nat), bs[k]? = some S → ∃ cs : Array Value, w.heap[S]? = some (.cells cs 92 (0, 0))
/-- What Section answers. -/
def SecPost (names : List (List UInt8)) (bs : List Nat) (nm : List UInt8) (w : World) (e : Ending) (w' : World) : Prop :=
  w = w' ∧ ((∃ k S : Nat, names[k]? = some nm ∧ (∀ j : Nat, j < k → names[j]? ≠ some nm) ∧ bs[k]? = some S ∧ e = .returned (.pointer (some ⟨S, 0, none⟩))) ∨ ((∀ j : Nat, names[j]? ≠ some nm) ∧ e = .returned (.pointer none)))

set_option maxHeartbeats 2000000 in
theorem fileSection (F G : Nat) (l : List UInt8) (names : List (List UInt8)) (bs : List Nat) (nm : List UInt8) (w : World) (hF : Hid (FileAt w F G l names bs)) :
    Calls Tryd.prog 21 #[.pointer (some ⟨F, 0, none⟩), .string ⟨nm.toArray⟩] w (SecPost names bs nm w) := by
  have c8 := hF.out.c8
  have hnb := hF.out.nb
  go_enter Tryd.func21, Tryd.ntmps21
  go_wp2_with fail
  go_loop [6, 12] (fun c6 i => ∃ k : Nat, k ≤ names.length ∧ i = .int .i64 k ∧ Hid (∀ j : Nat, j < k → names[j]? ≠ some nm)) (fun _ i => names.length - (intOf i).toNat)
  case atStart => exact ⟨0, Nat.zero_le _, rfl, Lib.hid (fun j h => absurd h (Nat.not_lt_zero j))⟩
  case round =>
    obtain ⟨k, hk, rfl, hno⟩ := hrel
    by_cases hkn : k < names.length
    · obtain ⟨S, hS⟩ : ∃ S, bs[k]? = some S := ⟨_, List.getElem?_eq_getElem (by rw [hF.out.len]; exact hkn)⟩
      obtain ⟨x, hx⟩ : ∃ x, names[k]? = some x := ⟨_, List.getElem?_eq_getElem hkn⟩
      have cg := hF.out.g k S hS
      have cs := hF.out.s k S x hS hx
      replace hS := Lib.hid hS
      replace hx := Lib.hid hx
      by_cases hxn : x = nm
      · subst hxn
        go_wp2
        go_ret
        exact ⟨rfl, .inl ⟨k, S, hx.out, hno.out, hS.out, rfl⟩⟩
      · have hno' : Hid (∀ j : Nat, j < k + 1 → names[j]? ≠ some nm) := Lib.hid (fun j hj e => by
          by_cases hjk : j < k
          · exact hno.out j hjk e
          · obtain rfl : j = k := by omega
            rw [hx.out] at e
            exact hxn (Option.some.inj e))
        have hb : (x == nm) = false := by rw [beq_eq_false_iff_ne]; exact hxn
        clear hxn
        go_wp2
        go_round
        case rel => exact ⟨k + 1, by omega, by go_num, hno'⟩
        case measure => simp [intOf]; omega
    · obtain rfl : names.length = k := by omega
      have hnone : Hid (∀ j : Nat, names[j]? ≠ some nm) := Lib.hid (fun j e => by
        by_cases hj : j < names.length
        · exact hno.out j hj e
        · rw [List.getElem?_eq_none (by omega)] at e
          cases e)
      go_wp2
      go_ret
      exact ⟨rfl, .inr ⟨hnone.out, rfl⟩⟩
/-- A file that was read, as File.Section and the thin package see it. -/
theorem fileAt_of {w0 w : World} {F M G : Nat} {l : List UInt8} {names : List (List UInt8)} {bs : List Nat} {hd : List Value} {ov sy cv tv : Value} (hl : hd.length = 7)
    (hF : w.heap[F]? = some (.cells (hd ++ ([ov, .slice (some ⟨G, 0, none⟩) names.length names.length, sy, cv, tv] : List Value)).toArray 78 (0, 0)))
    (hG : w.heap[G]? = some (.cells ((bs.map fun S => Value.pointer (some ⟨S, 0, none⟩))).toArray 69 (0, 0))) (hb : bs.length = names.length) (hS : SECS w0 w F M G l names bs) (hn : names.length ≤ 1000) : FileAt w F G l names bs :=
  ⟨World.cell?_of_row hF 8 _ (by rw [List.getElem?_append_right (by omega), hl]; rfl), fun k S h => World.cell?_of_row hG k _ (by rw [List.getElem?_map, h]; rfl), hb, fun k S nm h1 h2 => by
    obtain ⟨v4, v6, ⟨x1, x2, x3, x4, x6, x8, x9, x10, x11, x12, g⟩, -⟩ := hS.sec k S nm h1 h2
    exact World.cell?_of_row g 0 _ rfl, hn, fun k S h1 => by
    have hk : k < names.length := by rw [← hb]; exact (List.getElem?_eq_some_iff.1 h1).1
    obtain ⟨v4, v6, ⟨x1, x2, x3, x4, x6, x8, x9, x10, x11, x12, g⟩, -⟩ := hS.sec k S _ h1 (List.getElem?_eq_getElem hk)
    exact ⟨_, g⟩⟩

set_option maxHeartbeats 1000000 in
theorem zzNewFile_any (n c : Nat) (A : Option Addr) (l : List UInt8) (f : FL) (w : World) (hN : Hid (n = l.length)) (hnc : n ≤ c) (hA : Hid (RB w A l)) (hF : Hid (FileOk l f)) :
    Calls Tryd.prog 19 #[.slice A n c] w fun e w' => ∃ w1, Below w.heap.size w w1 ∧ FilePost w1 l f e w' := by
  have R1 := Lib.hid (heap_alloc_new w (.cells #[.slice A n c, .int .i64 0, .int .i64 (-1)] 128))
  have A1 := Lib.hid (hA.out.later ((Below.refl _ w).alloc (Nat.le_refl _) (.cells #[.slice A n c, .int .i64 0, .int .i64 (-1)] 128)))
  have CALL := Lib.hid (newFile_any w.heap.size n c A l f (w.alloc (.cells #[.slice A n c, .int .i64 0, .int .i64 (-1)] 128)) hN hnc R1 A1 hF)
  go_enter Tryd.func19, Tryd.ntmps19
  go_wp2_with fail
  refine (newReader _ A n c rfl w).mono ?_
  rintro e w' ⟨rfl, rfl⟩
  go_wp2_with fail
  refine CALL.out.mono ?_
  rintro e w2 ⟨F, M, G, hd, ov, sy, cv, tv, bs, rfl, h⟩
  replace h := Lib.hid h
  go_wp2
  go_ret2
  exact ⟨_, (Below.refl _ _).alloc (Nat.le_refl _) _, F, M, G, hd, ov, sy, cv, tv, bs, rfl, h.out⟩

set_option maxHeartbeats 2000000 in
/-- The thin package's PePartOf. -/
theorem implPartOf (n c : Nat) (A : Option Addr) (l nm : List UInt8) (f : FL) (w : World) (hN : Hid (n = l.length)) (hA : Hid (RB w A l)) (hF : Hid (FileOk l f)) :
    Calls Tryd.prog 6 #[.slice A n c, .string ⟨nm.toArray⟩] w fun e w' => e = .returned (.int .i64 (firstI nm f.names)) ∧ Below w.heap.size w w' := by
  have hn5 : n ≤ 100000 := by rw [hN.out]; exact hF.out.small
  obtain ⟨ji, hji, hjs⟩ : ∃ j, Tryd.prog.info? 92 = some j ∧ j.size ≠ 0 := by
    have h : (Tryd.prog.info? 92).map (·.size) = some 13 := by kernel_rfl
    cases hq : Tryd.prog.info? 92 with
    | none => rw [hq] at h; cases h
    | some j =>
      rw [hq] at h
      exact ⟨j, rfl, by simp at h; omega⟩
  replace hji := Lib.hid hji
  replace hjs := Lib.hid hjs
  go_enter Tryd.func6, Tryd.ntmps6
  go_wp2_with fail
  refine (copied_any A l n c hN.out (by omega) w hA.out).mono ?_
  rintro e w1 ⟨⟨v, rfl, own1⟩, b1⟩
  obtain ⟨-, A1, c1, rfl, R1, hc1, -⟩ := RB.of_owns own1
  replace R1 := Lib.hid R1
  replace b1 := Lib.hid b1
  clear own1
  go_wp2_with fail
  refine (zzNewFile_any n c1 A1 l f w1 hN hc1 R1 hF).mono ?_
  rintro e w3 ⟨w2, b2, F, M, G, hd, ov, sy, cv, tv, bs, rfl, hd7, hFr, hGr, hbl, hSe, -, b3⟩
  have FA : Hid (FileAt w3 F G l f.names bs) := Lib.hid (fileAt_of hd7 hFr.out hGr.out hbl.out hSe.out hF.out.nb)
  have bb : Hid (Below w.heap.size w w3) := Lib.hid ((b1.out.trans (b2.mono b1.out.size)).trans (b3.mono (Nat.le_trans b1.out.size b2.size)))
  have hnb := hF.out.nb
  clear hd7 hFr hGr hbl hSe b2 b3 b1 R1 hN hA hF
  go_wp2_with fail
  refine (fileSection F G l f.names bs nm w3 FA).mono ?_
  rintro e w' ⟨rfl, ⟨k0, S0, hk0, hj0, hS0, rfl⟩ | ⟨hno, rfl⟩⟩
  · have hfst := Lib.hid (firstI_some hk0 hj0)
    have hlt0 := (List.getElem?_eq_some_iff.1 hk0).1
    have hdiff : Hid (∀ j S, j < k0 → bs[j]? = some S → S ≠ S0) := Lib.hid (fun j S hj hS e => by
      subst e
      have hjl : j < f.names.length := by omega
      have h1 := FA.out.s j S _ hS (List.getElem?_eq_getElem hjl)
      have h2 := FA.out.s k0 S nm hS0 hk0
      rw [h1] at h2
      simp only [Option.some.injEq, Value.string.injEq, ByteArray.mk.injEq] at h2
      have h3 : f.names[j] = nm := by simpa using congrArg Array.toList h2
      exact hj0 j hj (by rw [List.getElem?_eq_getElem hjl, h3]))
    have c8 := FA.out.c8
    replace hS0 := Lib.hid hS0
    clear hk0 hj0
    go_wp2_with fail
    go_loop [8, 9, 26] (fun c8 c9 i => ∃ k : Nat, k ≤ k0 ∧ i = .int .i64 k) (fun _ _ i => k0 - (intOf i).toNat)
    case atStart => exact ⟨0, Nat.zero_le _, rfl⟩
    case round =>
      obtain ⟨k, hk, rfl⟩ := hrel
      obtain ⟨S, hS⟩ : ∃ S, bs[k]? = some S := ⟨_, List.getElem?_eq_getElem (by rw [FA.out.len]; omega)⟩
      have cg := FA.out.g k S hS
      have hkl : k < f.names.length := by omega
      by_cases hkk : k < k0
      · have hne := hdiff.out k S hkk hS
        obtain ⟨ca, ha⟩ := FA.out.r k S hS
        obtain ⟨cb, hb⟩ := FA.out.r k0 S0 hS0.out
        have heq := run_eql_ptr_other (P := Tryd.prog) w3 (a := ⟨S, 0, none⟩) (b := ⟨S0, 0, none⟩) Tryd.underlying69 hji.out hjs.out (fun e => hne (Addr.mk.inj e).1) ha hb
        clear hS ha hb hne
        go_wp2
        go_round
        case rel => exact ⟨k + 1, by omega, by go_num⟩
        case measure => simp [intOf]; omega
      · obtain rfl : k = k0 := by omega
        rw [hS] at hS0
        obtain rfl : S = S0 := Option.some.inj hS0.out
        have heq := run_eql_ptr_same (P := Tryd.prog) w3 ⟨S, 0, none⟩ Tryd.underlying69 hji.out
        clear hS hS0
        go_wp2
        go_ret
        exact ⟨by rw [hfst.out]; rfl, bb.out⟩
  · have hfst := Lib.hid (firstI_none hno)
    have c8 := FA.out.c8
    clear hno
    go_wp2_with fail
    go_loop [8, 9, 26] (fun c8 c9 i => ∃ k : Nat, k ≤ f.names.length ∧ i = .int .i64 k) (fun _ _ i => f.names.length - (intOf i).toNat)
    case atStart => exact ⟨0, Nat.zero_le _, rfl⟩
    case round =>
      obtain ⟨k, hk, rfl⟩ := hrel
      by_cases hkl : k < f.names.length
      · obtain ⟨S, hS⟩ : ∃ S, bs[k]? = some S := ⟨_, List.getElem?_eq_getElem (by rw [FA.out.len]; omega)⟩
        have cg := FA.out.g k S hS
        clear hS
        go_wp2
        go_round
        case rel => exact ⟨k + 1, by omega, by go_num⟩
        case measure => simp [intOf]; omega
      · obtain rfl : f.names.length = k := by omega
        go_wp2
        go_ret
        exact ⟨by rw [hfst.out]; rfl, bb.out⟩

open Go Go.RowKit
attribute [local go_sem ↓] Go.wp_at_zero Go.wp_at_succ

/-- A row of numbers of 32 bits that came in. -/
theorem IsRow.words {w : World} {a : Option Addr} {len cap : Nat} {zs : List Int} (h : IsRow .u32 w a len cap zs) : ∃ ps : List Nat, len = ps.length ∧ RC w a 1 ps.length (ps.map fun n : Nat => Value.int .u32 n) ∧ len ≤ cap ∧ ∀ v ∈ ps, v < 4294967296 := by
  rcases h with ⟨rfl, rfl, rfl, rfl⟩ | ⟨x, rfl, hl, hm, hz, hcell, hwf⟩
  · exact ⟨[], rfl, ⟨rfl, fun h => absurd h (Nat.lt_irrefl 0)⟩, Nat.le_refl _, fun v hv => by simp at hv⟩
  · have hb : ∀ n ∈ zs, 0 ≤ n ∧ n < 4294967296 := fun n hn => by
      have := hwf n hn
      simp [Lit.wf, IntKind.min, IntKind.max, IntKind.signed, IntKind.bits] at this
      omega
    refine ⟨(zs.take len).map Int.toNat, by simp; omega, ⟨by simp, fun _ => ⟨x, rfl, fun j u hu => ?_⟩⟩, hl, fun v hv => ?_⟩
    · rw [List.getElem?_map, List.getElem?_map, List.getElem?_take] at hu
      split at hu
      · rename_i hj
        have hjz : j < zs.length := by omega
        rw [hcell j hjz, ← hu, List.getElem?_eq_getElem hjz]
        have h0 := hb zs[j] (List.getElem_mem hjz)
        simp only [Option.map_some, List.getD_eq_getElem?_getD, List.getElem?_eq_getElem hjz, Option.getD_some]
        rw [Int.toNat_of_nonneg h0.1]
      · simp at hu
    · obtain ⟨n, hn, rfl⟩ := List.mem_map.1 hv
      have := hb n (List.mem_of_mem_take hn)
      omega
/-- The beginning of the text, by a number of 8 bits. -/
theorem secSlice8 (k : Nat) (h : k < 20) (W : World) : (Instr.slice 9 (.string ⟨#[46, 116, 101, 120, 116, 95, 111, 102, 95, 116, 104, 101, 95, 115, 101, 99, 116, 105, 111, 110]⟩) none (some (.int .u8 (1 + (k : Int)))) none).run Tryd.prog W = .ok (.string ⟨(secTxt.take (k + 1)).toArray⟩) W := by
  have hs : (⟨#[46, 116, 101, 120, 116, 95, 111, 102, 95, 116, 104, 101, 95, 115, 101, 99, 116, 105, 111, 110]⟩ : ByteArray).size = 20 := rfl
  rw [run_slice_string_h W 9 _ Tryd.underlying9 .u8 (1 + (k : Int)) (by omega) (by rw [hs]; omega), ← extract_take]
  have : (1 + (k : Int)).toNat = k + 1 := by omega
  rw [this]
  rfl
theorem bitsLt_of {w : World} {s : MadeS} {m : MadeL} (h : MadeV w s m) : BitsLt m := fun k b hb => by
  have hk := (List.getElem?_eq_some_iff.1 hb).1
  obtain ⟨c, x, hx, -, ⟨A, d, c', B, r, c'', vs, -, hA⟩, -⟩ := h.brec.get hk
  rw [hb] at hx
  obtain rfl := Option.some.inj hx
  exact ⟨hA.size, hA.addr, hA.flags⟩
/-- What has been found among the first names. -/
def Want (nm : List UInt8) (names : List (List UInt8)) (k : Nat) (x : Int) : Prop :=
  (∃ j : Nat, j < k ∧ names[j]? = some nm ∧ (∀ i : Nat, i < j → names[i]? ≠ some nm) ∧ x = (j : Int)) ∨ ((∀ i : Nat, i < k → names[i]? ≠ some nm) ∧ x = -1)
theorem Want.end_ {nm : List UInt8} {names : List (List UInt8)} {x : Int} (h : Want nm names names.length x) : firstI nm names = x := by
  rcases h with ⟨j, -, h1, h2, rfl⟩ | ⟨h1, rfl⟩
  · exact firstI_some h1 h2
  · exact firstI_none (fun i e => h1 i (List.getElem?_eq_some_iff.1 e).1 e)

set_option maxHeartbeats 4000000 in
theorem law_FnPePartOf (a0 : Int) (a1 : Option Addr) (len1 cap1 : Nat) (z1 : List Int) (a2 : Int) (w : World) (w0 : (Lit.int .u32 a0).wf = true) (w1 : IsRow .u32 w a1 len1 cap1 z1) (w2 : (Lit.int .u8 a2).wf = true) :
    Calls Tryd.prog 3 #[.int .u32 a0, .slice a1 len1 cap1, .int .u8 a2] w fun e w' => e = .returned (.bool true) ∧ Below w.heap.size w w' := by
  obtain ⟨F, rfl, hF⟩ : ∃ F : Nat, a0 = (F : Int) ∧ F < 4294967296 := by
    simp [Lit.wf, IntKind.min, IntKind.max, IntKind.signed, IntKind.bits] at w0
    exact ⟨a0.toNat, by omega, by omega⟩
  obtain ⟨Q, rfl, hQ⟩ : ∃ Q : Nat, a2 = (Q : Int) ∧ Q < 256 := by
    simp [Lit.wf, IntKind.min, IntKind.max, IntKind.signed, IntKind.bits] at w2
    exact ⟨a2.toNat, by omega, by omega⟩
  obtain ⟨ps, hlen, hrc, hcap, hlt⟩ := w1.words
  rw [hlen] at hcap
  rw [hlen]
  clear hlen w0 w1 w2
  replace hrc := Lib.hid hrc
  replace hlt := Lib.hid hlt
  by_cases hbig : 2147483647 < ps.length
  · clear hrc hlt
    go_enter Tryd.func3, Tryd.ntmps3
    go_wp2
    go_ret
    exact ⟨rfl, Below.refl _ _⟩
  · have CALL1 := Lib.hid (lawsPeOf_any F hF a1 ps cap1 w hcap hlt hrc)
    obtain ⟨K1, hK1, hK20⟩ : ∃ K1 : Nat, (Q : Int) % 20 = (K1 : Int) ∧ K1 < 20 := ⟨Q % 20, by omega, by omega⟩
    have hst := secSlice8 K1 hK20
    obtain ⟨nm, enm⟩ : ∃ nm, secTxt.take (K1 + 1) = nm := ⟨_, rfl⟩
    rw [enm] at hst
    clear enm hrc hlt
    go_enter Tryd.func3, Tryd.ntmps3
    go_wp2_with fail
    refine CALL1.out.mono ?_
    rintro e w1 ⟨s, m, rfl, MV, MO, hsy, b1⟩
    have hs0 : Hid (m.syms.length = 0) := Lib.hid (by rw [hsy.out]; rfl)
    replace b1 := Lib.hid b1
    go_wp2_with fail
    refine (peOf1_any s m w1 MV MO hs0).mono ?_
    rintro e w2 ⟨x0, x1, x2, x3, x5, x7, VP, cp, VC, cc, A, ca, pcs, rfl, hca, RA, RP, RS, b2, hone⟩
    replace b2 := Lib.hid b2
    have h1 : Hid (∀ v ∈ (#[x0, x1, x2, x3, .slice VP m.bits.length cp, x5, .slice VC (symE m).n cc, x7] : Array Value).toList, v.oneCell' = true) := Lib.hid (by
      intro v hv
      simp only [List.mem_cons, List.not_mem_nil, or_false] at hv hone
      rcases hv with rfl | rfl | rfl | rfl | rfl | rfl | rfl | rfl <;> first | rfl | exact hone _ (by simp))
    have hi30 : Hid ((Tryd.prog.info? 30).map (·.size) = some 8) := Lib.hid (by kernel_rfl)
    have g0 := Lib.hid (heap_alloc_new w2 (.cells #[.slice none 0 0, .int .i64 0, .slice none 0 0, .slice none 0 0, .slice none 0 0, .slice none 0 0, .slice none 0 0, .slice none 0 0] 30))
    have OK : Hid (OptOk m.opt) := Lib.hid (by rw [MV.out.opt]; exact MV.out.ov.ok)
    have BL : Hid (BitsLt m) := Lib.hid (bitsLt_of MV.out)
    have hb4 := MO.out.b4
    clear hone MV hs0 CALL1
    go_wp2_with (refine wpList_store_row rfl 30 (.tmp 7) (.tmp 21) rfl w2.heap.size 30 _ #[x0, x1, x2, x3, .slice VP m.bits.length cp, x5, .slice VC (symE m).n cc, x7] rfl rfl g0.out rfl hi30.out h1.out ?_; refine Stop.mk ?_)
    refine Stop.go ?_
    rw [World.setRow_alloc_new]
    have g3 : (w2.alloc (.cells #[x0, x1, x2, x3, .slice VP m.bits.length cp, x5, .slice VC (symE m).n cc, x7] 30)).heap[w2.heap.size]? = some (.cells ([x0, x1, x2, x3, .slice VP m.bits.length cp, x5, .slice VC (symE m).n cc, x7] : List Value).toArray 30 (0, 0)) := heap_alloc_new w2 _
    have b23 : Hid (Below w2.heap.size w2 (w2.alloc (.cells #[x0, x1, x2, x3, .slice VP m.bits.length cp, x5, .slice VC (symE m).n cc, x7] 30))) := Lib.hid ((Below.refl _ _).alloc (Nat.le_refl _) _)
    obtain ⟨w3, e3⟩ : ∃ w3, w2.alloc (.cells #[x0, x1, x2, x3, .slice VP m.bits.length cp, x5, .slice VC (symE m).n cc, x7] 30) = w3 := ⟨_, rfl⟩
    rw [e3] at g3 b23 ⊢
    have c4 := World.cell?_of_row g3 4 (.slice VP m.bits.length cp) rfl
    clear e3 g0 h1 hi30 g3
    go_wp2_with fail
    go_loopw [10, 11, 12, 30] (fun c10 c11 c12 i wx => ∃ (k : Nat) (x : Int), k ≤ m.bits.length ∧ i = .int .i64 k ∧ c10 = .int .i64 x ∧ Hid (Want nm (m.bits.map (·.name)) k x) ∧ -1 ≤ x ∧ x ≤ 4 ∧ Hid (Below w3.heap.size w3 wx)) (fun _ _ _ i _ => m.bits.length - (intOf i).toNat)
    case atStart => exact ⟨0, -1, Nat.zero_le _, rfl, rfl, Lib.hid (.inr ⟨fun i h => absurd h (Nat.not_lt_zero i), rfl⟩), by omega, by omega, Lib.hid (Below.refl _ _)⟩
    case round =>
      obtain ⟨k, x, hk, rfl, rfl, hW, hx1, hx4, bl⟩ := hrel
      by_cases hkn : k < m.bits.length
      ·
        --[RL
        obtain ⟨c, b, hb, hc4, ⟨A1, a, a', B1, d1, d', C1, e1, e', rfl⟩, hat⟩ := RS.out.get hkn
        have RP1 := rc_later RP.out (b23.out.trans (bl.out.mono b23.out.size))
        obtain ⟨⟨g, o, spot⟩, hVP, hcl⟩ := RP1.2 (by omega)
        have hsp : spot = none := by
          obtain ⟨c0, b0, -, -, ⟨_, _, _, _, _, _, _, _, _, rfl⟩, hat0⟩ := RS.out.get (k := 0) (by omega)
          have h0 := hcl _ _ (hat0 0 _ rfl)
          simpa [Addr.add] using World.cell?_spot h0
        subst hsp
        have q : ∀ j u, ([.string ⟨b.name.toArray⟩, .slice A1 a a', .slice B1 d1 d', .slice C1 e1 e'] : List Value)[j]? = some u → wr.cell? ⟨g, o + k * 4 + j, none⟩ = some u := fun j u h => by
          have h2 := hcl _ _ (hat j u h)
          rw [add_off] at h2
          rw [Nat.add_assoc]
          exact h2
        have q0 : wr.cell? ⟨g, o + k * 4, none⟩ = some (.string ⟨b.name.toArray⟩) := q 0 _ rfl
        have q1 := q 1 _ rfl
        have q2 := q 2 _ rfl
        have q3 := q 3 _ rfl
        have hnk : (m.bits.map (·.name))[k]? = some b.name := by rw [List.getElem?_map, hb]; rfl
        have b4 : Hid (Below w3.heap.size w3 (wr.alloc (.cells #[.string ⟨b.name.toArray⟩, .slice A1 a a', .slice B1 d1 d', .slice C1 e1 e'] 41))) := Lib.hid (bl.out.alloc bl.out.size _)
        subst hVP
        clear q hcl hat hc4 RP1 bl
        by_cases hbn : b.name = nm
        · have hbt : (b.name == nm) = true := by rw [beq_iff_eq]; exact hbn
          rw [hbn] at hnk
          rcases hW.out with ⟨j, hj, hj1, hj2, rfl⟩ | ⟨hno, rfl⟩
          · have hW' : Hid (Want nm (m.bits.map (·.name)) (k + 1) (j : Int)) := Lib.hid (.inl ⟨j, by omega, hj1, hj2, rfl⟩)
            have hj0 : (0 : Int) ≤ (j : Int) := by omega
            clear hj1 hj2 hnk hb hbn hW
            go_wp2
            go_roundw
            case rel => exact ⟨k + 1, _, by omega, by go_num, rfl, hW', by omega, by omega, b4⟩
            case measure => simp [intOf]; omega
          · have hW' : Hid (Want nm (m.bits.map (·.name)) (k + 1) (k : Int)) := Lib.hid (.inl ⟨k, by omega, hnk, hno, rfl⟩)
            clear hno hnk hb hbn hW
            go_wp2
            go_roundw
            case rel => exact ⟨k + 1, _, by omega, by go_num, rfl, hW', by omega, by omega, b4⟩
            case measure => simp [intOf]; omega
        · have hbt : (b.name == nm) = false := by rw [beq_eq_false_iff_ne]; exact hbn
          have hW' : Hid (Want nm (m.bits.map (·.name)) (k + 1) x) := Lib.hid (by
            rcases hW.out with ⟨j, hj, hj1, hj2, rfl⟩ | ⟨hno, rfl⟩
            · exact .inl ⟨j, by omega, hj1, hj2, rfl⟩
            · refine .inr ⟨fun i hi e => ?_, rfl⟩
              by_cases hik : i < k
              · exact hno i hik e
              · obtain rfl : i = k := by omega
                rw [hnk] at e
                exact hbn (Option.some.inj e))
          clear hnk hb hbn hW
          go_wp2
          go_roundw
          case rel => exact ⟨k + 1, _, by omega, by go_num, rfl, hW', by omega, by omega, b4⟩
          case measure => simp [intOf]; omega
        --]RL
      · obtain rfl : m.bits.length = k := by omega
        have b24 := b23.out.trans (bl.out.mono b23.out.size)
        have RA4 := Lib.hid (RA.out.later b24)
        have b04 := Lib.hid ((b1.out.trans (b2.out.mono b1.out.size)).trans (b24.mono (Nat.le_trans b1.out.size b2.out.size)))
        have hfst : Hid (firstI nm (flOf m).names = x) := Lib.hid (Want.end_ (by
          show Want nm (m.bits.map (·.name)) (m.bits.map (·.name)).length x
          rw [List.length_map]
          exact hW.out))
        have hsm := (fileB_small MO.out OK.out).2.2.2
        clear hW b24 bl b1 b2 b23 RA RP RS
        by_cases h96 : (fileB m).length < 96
        · go_wp2
          go_ret
          exact ⟨rfl, b04.out⟩
        · have CALL := Lib.hid (implPartOf (fileB m).length ca A (fileB m) nm (flOf m) wr (Lib.hid rfl) RA4 (Lib.hid (file_laid MO.out OK.out BL.out (by omega) (syms_none hsy.out))))
          rw [hfst.out] at CALL
          clear hfst
          go_wp2_with fail
          refine CALL.out.mono ?_
          rintro e w5 ⟨rfl, b5⟩
          have b05 := Lib.hid (b04.out.trans (b5.mono b04.out.size))
          clear b5
          go_wp2
          go_ret
          exact ⟨rfl, b05.out⟩

open Go Go.ChangeShapes Go.WideShapes Go.RowKit

/-- The listed variables. -/
@[reducible] def laid10 : List (String × DataW Unit) := [("math/bits.deBruijn32tab", Rows.laid_math_bits_deBruijn32tab), ("math/bits.deBruijn64tab", Rows.laid_math_bits_deBruijn64tab), ("internal/strconv.uint64pow10", Rows.laid_internal_strconv_uint64pow10), ("strconv.ErrRange", Rows.laid_strconv_ErrRange), ("strconv.ErrSyntax", Rows.laid_strconv_ErrSyntax), ("io.ErrShortBuffer", Rows.laid_io_ErrShortBuffer), ("io.EOF", Rows.laid_io_EOF), ("io.ErrUnexpectedEOF", Rows.laid_io_ErrUnexpectedEOF), ("io.errWhence", Rows.laid_io_errWhence), ("io.errOffset", Rows.laid_io_errOffset)]

theorem Door.met (os : Os) (args : Array Value) : laidMetH Tryd.prog laid10 ((World.doorLaid Tryd.prog 158 os).forCall (fun _ _ => 0) ⟨#[], args, []⟩).memory :=
  laidMetH_of_parts3 (fuel := 8) (laidMet_of_run' 8 (by kernel_rfl) (by kernel_rfl)) (by kernel_rfl) (by kernel_rfl)
end Go.Proofs.YtbpebngjpecncaaDoor
