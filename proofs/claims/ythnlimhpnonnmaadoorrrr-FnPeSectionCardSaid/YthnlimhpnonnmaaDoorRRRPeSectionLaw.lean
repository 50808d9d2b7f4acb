/-
  impl.PeSection: its contracts; the walk of the law FnPeSection.
-/
import Derived.Test.YthnlimhpnonnmaaDoorRRRSectionHeader32
import Derived.Test.YthnlimhpnonnmaaDoorRRRGen
namespace Go.Proofs.YthnlimhpnonnmaaDoorRRR
set_option linter.unusedVariables false
set_option linter.unusedSimpArgs false
open Go Go.RowKit
attribute [local go_sem ↓] Go.wp_at_zero Go.wp_at_succ

set_option maxHeartbeats 400000 in
theorem peSection_any (w : World) :
    Calls Tryd.prog 18 #[] w fun e w' => (∃ v, e = .returned (.slice v 10 10) ∧ RC w' v 1 10 (([-8, 4, 4, 4, 4, 4, 4, 2, 2, 4] : List Int).map iv)) ∧ Below w.heap.size w w' := by
  go_enter Tryd.func18, Tryd.ntmps18
  go_wp2
  go_ret
  exact ⟨⟨_, rfl, rc_new rfl rfl⟩, (Below.refl _ _).alloc (Nat.le_refl _) _⟩

/-- The numbers of SectionHeader32. -/
def nSectionHeader32 (s : List UInt8) : List Nat := [num false ((s.drop 8).take 4), num false ((s.drop 12).take 4), num false ((s.drop 16).take 4), num false ((s.drop 20).take 4), num false ((s.drop 24).take 4), num false ((s.drop 28).take 4), num false ((s.drop 32).take 2), num false ((s.drop 34).take 2), num false ((s.drop 36).take 4)]
theorem nSectionHeader32_eq (l : List UInt8) : nSectionHeader32 (l.take 40) = numsOf false [-8, 4, 4, 4, 4, 4, 4, 2, 2, 4] l := by
  simp [nSectionHeader32, numsOf, List.drop_take, List.take_take]

set_option maxRecDepth 100000 in
set_option maxHeartbeats 2000000 in
theorem implSectionHeader32_all (A : Option Addr) (l : List UInt8) (n c : Nat) (hN : Hid (n = l.length)) (hb : n ≤ 2147483647) (hZ : 40 ≤ n) (w : World) (hA : RB w A l) (h3 : 3 ≤ w.heap.size) :
    Calls Tryd.prog 17 #[.slice A n c] w fun e w' => (∃ N0 k0 v, e = .returned (.tuple #[.slice N0 8 k0, .slice v 9 9, .bool true]) ∧ Hid (RB w' N0 (l.take 8)) ∧ Hid (RC w' v 1 9 ((nSectionHeader32 (l.take 40)).map uv))) ∧ Below w.heap.size w w' := by
  obtain ⟨s, hS⟩ : ∃ s, l.take 40 = s := ⟨_, rfl⟩
  have hs : s.length = 40 := by rw [← hS]; have := hN.out; simp; omega
  have en0 : (l.take 8) = (s.take 8) := by rw [← hS]; simp [List.drop_take, List.take_take]
  rw [hS, en0]
  have HS := Lib.hid hS
  have hsize := Lib.hid (sizeSectionHeader32 false s hs)
  have hinfo : (Tryd.prog.info? 73).map (·.size) = some 17 := by kernel_rfl
  obtain ⟨y0_0, y0_1, y0_2, y0_3, y0_4, y0_5, y0_6, y0_7, hy0, hrow⟩ := fSectionHeader32_row false s hs
  rw [hy0]
  replace hrow := Lib.hid hrow
  clear hS hs hy0 en0
  replace hinfo := Lib.hid hinfo
  go_enter Tryd.func17, Tryd.ntmps17
  go_wp2_with fail
  refine (copied_any A l n c hN.out hb w hA).mono ?_
  rintro e w1 ⟨⟨v, rfl, hown⟩, hb1⟩
  obtain ⟨-, A1, k1, rfl, R1, hc1, hcm, hA1, hA2⟩ := RB.of_owns hown
  replace R1 := Lib.hid R1
  have hsz1 := hb1.size
  clear hown hA1 hA2 hcm
  go_wp2_with fail
  refine (zzSectionHeader32_all A1 l n k1 w1 hN hb hZ hc1 R1 (R1.out.ltA (by have := hN.out; omega)) (by omega)).mono ?_
  rintro e w2 ⟨rfl, hb2⟩
  rw [HS.out]
  have hbw : Hid (Below w.heap.size w w2) := Lib.hid (hb1.trans (hb2.mono hb1.size))
  have g2 := Lib.hid (heap_alloc_new w2 (.cells #[.int .u8 0, .int .u8 0, .int .u8 0, .int .u8 0, .int .u8 0, .int .u8 0, .int .u8 0, .int .u8 0, .int .u32 0, .int .u32 0, .int .u32 0, .int .u32 0, .int .u32 0, .int .u32 0, .int .u16 0, .int .u16 0, .int .u32 0] 73))
  have hrowW := (congrArg (fun x : World => x.heap[w2.heap.size]?) (World.setRow_alloc_new w2 #[.int .u8 0, .int .u8 0, .int .u8 0, .int .u8 0, .int .u8 0, .int .u8 0, .int .u8 0, .int .u8 0, .int .u32 0, .int .u32 0, .int .u32 0, .int .u32 0, .int .u32 0, .int .u32 0, .int .u16 0, .int .u16 0, .int .u32 0] (fSectionHeader32 false s).toArray 73)).trans (heap_alloc_new w2 _)
  replace hrow := hrow.out
  have c1 := World.cell?_of_row hrowW 8 (.int .u32 ((num false ((s.drop 8).take 4) : Nat) : Int)) (by rw [hrow]; rfl)
  have c2 := World.cell?_of_row hrowW 9 (.int .u32 ((num false ((s.drop 12).take 4) : Nat) : Int)) (by rw [hrow]; rfl)
  have c3 := World.cell?_of_row hrowW 10 (.int .u32 ((num false ((s.drop 16).take 4) : Nat) : Int)) (by rw [hrow]; rfl)
  have c4 := World.cell?_of_row hrowW 11 (.int .u32 ((num false ((s.drop 20).take 4) : Nat) : Int)) (by rw [hrow]; rfl)
  have c5 := World.cell?_of_row hrowW 12 (.int .u32 ((num false ((s.drop 24).take 4) : Nat) : Int)) (by rw [hrow]; rfl)
  have c6 := World.cell?_of_row hrowW 13 (.int .u32 ((num false ((s.drop 28).take 4) : Nat) : Int)) (by rw [hrow]; rfl)
  have c7 := World.cell?_of_row hrowW 14 (.int .u16 ((num false ((s.drop 32).take 2) : Nat) : Int)) (by rw [hrow]; rfl)
  have c8 := World.cell?_of_row hrowW 15 (.int .u16 ((num false ((s.drop 34).take 2) : Nat) : Int)) (by rw [hrow]; rfl)
  have c9 := World.cell?_of_row hrowW 16 (.int .u32 ((num false ((s.drop 36).take 4) : Nat) : Int)) (by rw [hrow]; rfl)
  have nm0 := Lib.hid (RB.of_mid (pre := []) (post := [.int .u32 ((num false ((s.drop 8).take 4) : Nat) : Int), .int .u32 ((num false ((s.drop 12).take 4) : Nat) : Int), .int .u32 ((num false ((s.drop 16).take 4) : Nat) : Int), .int .u32 ((num false ((s.drop 20).take 4) : Nat) : Int), .int .u32 ((num false ((s.drop 24).take 4) : Nat) : Int), .int .u32 ((num false ((s.drop 28).take 4) : Nat) : Int), .int .u16 ((num false ((s.drop 32).take 2) : Nat) : Int), .int .u16 ((num false ((s.drop 34).take 2) : Nat) : Int), .int .u32 ((num false ((s.drop 36).take 4) : Nat) : Int)]) (l := [y0_0, y0_1, y0_2, y0_3, y0_4, y0_5, y0_6, y0_7]) hrowW (by rw [hrow]; rfl) 0 rfl)
  clear hrowW
  replace hrow := Lib.hid hrow
  have W1 := wrap_num false (s.drop 8) 4 (by omega)
  have W2 := wrap_num false (s.drop 12) 4 (by omega)
  have W3 := wrap_num false (s.drop 16) 4 (by omega)
  have W4 := wrap_num false (s.drop 20) 4 (by omega)
  have W5 := wrap_num false (s.drop 24) 4 (by omega)
  have W6 := wrap_num false (s.drop 28) 4 (by omega)
  have W7 := wrap_num false (s.drop 32) 2 (by omega)
  have W8 := wrap_num false (s.drop 34) 2 (by omega)
  have W9 := wrap_num false (s.drop 36) 4 (by omega)
  have hb3 : Hid (Below w.heap.size w ((w2.alloc (.cells #[.int .u8 0, .int .u8 0, .int .u8 0, .int .u8 0, .int .u8 0, .int .u8 0, .int .u8 0, .int .u8 0, .int .u32 0, .int .u32 0, .int .u32 0, .int .u32 0, .int .u32 0, .int .u32 0, .int .u16 0, .int .u16 0, .int .u32 0] 73)).setRow w2.heap.size (fSectionHeader32 false s).toArray)) := Lib.hid (below_setRow (hbw.out.alloc hbw.out.size _) hbw.out.size _)
  have hl3 : w2.heap.size < ((w2.alloc (.cells #[.int .u8 0, .int .u8 0, .int .u8 0, .int .u8 0, .int .u8 0, .int .u8 0, .int .u8 0, .int .u8 0, .int .u32 0, .int .u32 0, .int .u32 0, .int .u32 0, .int .u32 0, .int .u32 0, .int .u16 0, .int .u16 0, .int .u32 0] 73)).setRow w2.heap.size (fSectionHeader32 false s).toArray).heap.size := by simp
  clear hb1 hb2 hsz1
  go_wp2_with (refine wpList_store_row rfl 73 _ _ rfl w2.heap.size 73 #[.int .u8 0, .int .u8 0, .int .u8 0, .int .u8 0, .int .u8 0, .int .u8 0, .int .u8 0, .int .u8 0, .int .u32 0, .int .u32 0, .int .u32 0, .int .u32 0, .int .u32 0, .int .u32 0, .int .u16 0, .int .u16 0, .int .u32 0] (fSectionHeader32 false s).toArray rfl rfl g2.out (by rw [hsize.out]; rfl) (by rw [hsize.out]; exact hinfo.out) (oneSectionHeader32 false _) ?_)
  generalize (w2.alloc (.cells #[.int .u8 0, .int .u8 0, .int .u8 0, .int .u8 0, .int .u8 0, .int .u8 0, .int .u8 0, .int .u8 0, .int .u32 0, .int .u32 0, .int .u32 0, .int .u32 0, .int .u32 0, .int .u32 0, .int .u16 0, .int .u16 0, .int .u32 0] 73)).setRow w2.heap.size (fSectionHeader32 false s).toArray = W3 at *
  clear g2
  generalize w2.heap.size = V at *
  go_region_held3 (fun w' => w'.cell? ⟨V, 8, none⟩ = some (.int .u32 ((num false ((s.drop 8).take 4) : Nat) : Int)) ∧ w'.cell? ⟨V, 9, none⟩ = some (.int .u32 ((num false ((s.drop 12).take 4) : Nat) : Int)) ∧ w'.cell? ⟨V, 10, none⟩ = some (.int .u32 ((num false ((s.drop 16).take 4) : Nat) : Int)) ∧ w'.cell? ⟨V, 11, none⟩ = some (.int .u32 ((num false ((s.drop 20).take 4) : Nat) : Int)) ∧ w'.cell? ⟨V, 12, none⟩ = some (.int .u32 ((num false ((s.drop 24).take 4) : Nat) : Int)) ∧ w'.cell? ⟨V, 13, none⟩ = some (.int .u32 ((num false ((s.drop 28).take 4) : Nat) : Int)) ∧ w'.cell? ⟨V, 14, none⟩ = some (.int .u16 ((num false ((s.drop 32).take 2) : Nat) : Int)) ∧ w'.cell? ⟨V, 15, none⟩ = some (.int .u16 ((num false ((s.drop 34).take 2) : Nat) : Int)) ∧ w'.cell? ⟨V, 16, none⟩ = some (.int .u32 ((num false ((s.drop 36).take 4) : Nat) : Int))) (first | go_keep | (refine ⟨?_, ?_, ?_, ?_, ?_, ?_, ?_, ?_, ?_⟩ <;> refine (hbA.cell ?_).trans ?_ <;> first | assumption | (simp; omega) | go_keep))
    (first | (go_at_call 29; refine (copied_any (some ⟨V, 0, none⟩) [y0_0, y0_1, y0_2, y0_3, y0_4, y0_5, y0_6, y0_7] 8 8 rfl (by omega) _ (by first | exact nm0.out | exact nm0.out.later ((Below.refl _ _).alloc (Nat.le_refl _) _))).mono ?_; rintro e wA ⟨⟨vA, rfl, hownA⟩, hbA⟩; obtain ⟨-, NA, kA, rfl, RA, -, -, -, -⟩ := RB.of_owns hownA; replace RA := Lib.hid RA; (try replace hbA := Below.undrew hbA)) )
  all_goals
    have hz3 := hb3.out.size
    have hzA := hbA.size
    try simp at hzA
    go_wp2
    go_ret3
    refine ⟨⟨_, _, _, rfl, Lib.hid ?_, Lib.hid ?_⟩, ?_⟩
    · (first | exact RA.out | exact RA.out.later ((Below.refl _ _).alloc (Nat.le_refl _) _))
    · (first | exact (rc_new (vs := (nSectionHeader32 s).map uv) rfl (by simp [nSectionHeader32])) | exact (rc_new (vs := (nSectionHeader32 s).map uv) rfl (by simp [nSectionHeader32])).later hbA)
    · (repeat (first | exact hb3.out | refine Below.drew ?_ | refine Below.alloc ?_ (by first | omega | (simp; omega)) _ | refine Below.trans ?_ (hbA.mono (by first | omega | (simp; omega))) ))

set_option maxRecDepth 100000 in
set_option maxHeartbeats 1000000 in
theorem implSectionHeader32_short (A : Option Addr) (l : List UInt8) (n c : Nat) (hN : Hid (n = l.length)) (hb : n ≤ 2147483647) (hZ : n < 40) (w : World) (hA : RB w A l) (TE TU : TypeId) (vE vU : Value) (hErr : Hid (ErrsAt w TE TU vE vU)) (h3 : 3 ≤ w.heap.size) :
    Calls Tryd.prog 17 #[.slice A n c] w fun e w' => e = .returned (.tuple #[.slice none 0 0, .slice none 0 0, .bool false]) ∧ Below w.heap.size w w' := by
  go_enter Tryd.func17, Tryd.ntmps17
  go_wp2_with fail
  refine (copied_any A l n c hN.out hb w hA).mono ?_
  rintro e w1 ⟨⟨v, rfl, hown⟩, hb1⟩
  obtain ⟨-, A1, k1, rfl, R1, hc1, hcm, hA1, hA2⟩ := RB.of_owns hown
  replace R1 := Lib.hid R1
  have hlt := fun (a : Addr) (ha : A1 = some a) => owned_lt hown (by rw [ha])
  have hE1 := Lib.hid (hErr.out.chg (Chg.of_below (S := fun k => w.heap.size ≤ k) hb1 (fun k _ h => h)) (by omega) (by omega))
  have hsz := hb1.size
  clear hown hA1 hA2 hcm
  go_wp2_with fail
  refine (zzSectionHeader32_short A1 l n k1 w1 TE TU vE vU hE1 (by omega) hN hb hZ hc1 R1 hlt).mono ?_
  rintro e w2 ⟨⟨TX, vX, rfl⟩, hb2⟩
  have hbw : Hid (Below w.heap.size w w2) := Lib.hid (hb1.trans (hb2.mono hb1.size))
  have g2 := Lib.hid (heap_alloc_new w2 (.cells #[.int .u8 0, .int .u8 0, .int .u8 0, .int .u8 0, .int .u8 0, .int .u8 0, .int .u8 0, .int .u8 0, .int .u32 0, .int .u32 0, .int .u32 0, .int .u32 0, .int .u32 0, .int .u32 0, .int .u16 0, .int .u16 0, .int .u32 0] 73))
  go_wp2_with (refine wpList_store_self rfl 73 _ _ rfl w2.heap.size 73 #[.int .u8 0, .int .u8 0, .int .u8 0, .int .u8 0, .int .u8 0, .int .u8 0, .int .u8 0, .int .u8 0, .int .u32 0, .int .u32 0, .int .u32 0, .int .u32 0, .int .u32 0, .int .u32 0, .int .u16 0, .int .u16 0, .int .u32 0] rfl rfl g2.out (by kernel_rfl) (List.all_eq_true.1 rfl) ?_)
  go_ret3
  exact ⟨rfl, hbw.out.alloc hbw.out.size _⟩

set_option maxRecDepth 100000 in
set_option maxHeartbeats 1000000 in
theorem lawSectionHeader32 (a1 : Option Addr) (len1 cap1 : Nat) (l : List UInt8) (w : World) (hN : Hid (len1 = l.length)) (hr : RB w a1 l) (hc : len1 ≤ cap1) (hb : len1 ≤ 1048576) (TE TU : TypeId) (vE vU : Value) (hE : Hid (ErrsAt w TE TU vE vU)) (h3 : 3 ≤ w.heap.size) :
    Calls Tryd.prog 5 #[.slice a1 len1 cap1] w fun e w' => e = .returned (.bool true) ∧ Below w.heap.size w w' := by
  have hff := fieldsOf_all false [-8, 4, 4, 4, 4, 4, 4, 2, 2, 4] l
  have hwid : widthOf [-8, 4, 4, 4, 4, 4, 4, 2, 2, 4] = 40 := rfl
  rw [hwid] at hff
  clear hwid
  by_cases hZ : 40 ≤ len1
  · rw [if_neg (by have := hN.out; omega), ← nSectionHeader32_eq] at hff
    replace hff := Lib.hid hff
    go_enter Tryd.func5, Tryd.ntmps5
    go_wp2_with fail
    refine (implSectionHeader32_all a1 l len1 cap1 hN (by omega) hZ w hr h3).mono ?_
    rintro e w1 ⟨⟨N0, k0, v, rfl, RN0, R1⟩, b1⟩
    go_wp2_with fail
    refine (peSection_any w1).mono ?_
    rintro e w2 ⟨⟨B, rfl, R2⟩, b2⟩
    have R1' := Lib.hid (R1.out.later b2)
    have b12 := Lib.hid (b1.trans (b2.mono b1.size))
    have A2 := Lib.hid (hr.later b12.out)
    replace b2 := Lib.hid b2
    replace b1 := Lib.hid b1
    clear R1
    go_wp2_with fail
    refine (fields_any false a1 B l [-8, 4, 4, 4, 4, 4, 4, 2, 2, 4] len1 cap1 10 10 hN hc (by omega) (Lib.hid (by simp)) (by omega) (Lib.hid (by decide)) w2 A2 (Lib.hid R2)).mono ?_
    rintro e w3 ⟨h | ⟨r, v3, e3, rfl, own3⟩, b3⟩
    · rw [hff.out] at h; cases h.1
    obtain rfl := Option.some.inj (hff.out.symm.trans e3)
    obtain ⟨C, d3, rfl, R3, -, -⟩ := RC.of_owns own3
    have R1'' := R1'.out.later b3
    have b13 := Lib.hid (b12.out.trans (b3.mono b12.out.size))
    have b23 := Lib.hid (b2.out.trans (b3.mono b2.out.size))
    have A3 := Lib.hid (A2.out.later b3)
    have eK : (nSectionHeader32 (l.take 40)).length = 9 := rfl
    rw [eK] at R3 ⊢
    clear own3 e3 b3 R1' b12 A2 R2 hff b1 b2
    replace R1'' := Lib.hid R1''
    replace R3 := Lib.hid R3
    have RN0' := Lib.hid (RN0.out.later b23.out)
    have hcv0 := fun q => run_conv_RB (P := Tryd.prog) (w := w3.drewN q) Tryd.underlying22 Tryd.underlying5 Tryd.underlying9 (RN0'.out.drewN q) (n := 8) (c := k0) (by have := hN.out; simp; omega)
    have hsl := fun W => run_slice_to (P := Tryd.prog) Tryd.underlying22 (info_parts Tryd.infoByte).choose_spec.1 a1 len1 cap1 8 (by omega) W
    have hcvb := fun q => run_conv_RB (P := Tryd.prog) (w := w3.drewN q) Tryd.underlying22 Tryd.underlying5 Tryd.underlying9 ((A3.out.take 8).drewN q) (n := 8) (c := cap1) (by have := hN.out; simp; omega)
    go_wp2_with fail
    go_quiet ((go_at_call 13; exact Calls.quiet_of (same_yes v C 9 9 d3 (nSectionHeader32 (l.take 40)) _ (by omega) R1''.out R3.out)))
    go_wp2
    go_ret
    exact ⟨rfl, below_drewN b13.out _⟩
  · rw [if_pos (by have := hN.out; omega)] at hff
    replace hff := Lib.hid hff
    go_enter Tryd.func5, Tryd.ntmps5
    go_wp2_with fail
    refine (implSectionHeader32_short a1 l len1 cap1 hN (by omega) (by omega) w hr TE TU vE vU hE h3).mono ?_
    rintro e w1 ⟨rfl, b1⟩
    go_wp2_with fail
    refine (peSection_any w1).mono ?_
    rintro e w2 ⟨⟨B, rfl, R2⟩, b2⟩
    have b12 := Lib.hid (b1.trans (b2.mono b1.size))
    have A2 := Lib.hid (hr.later b12.out)
    clear b1 b2
    go_wp2_with fail
    refine (fields_any false a1 B l [-8, 4, 4, 4, 4, 4, 4, 2, 2, 4] len1 cap1 10 10 hN hc (by omega) (Lib.hid (by simp)) (by omega) (Lib.hid (by decide)) w2 A2 (Lib.hid R2)).mono ?_
    rintro e w3 ⟨⟨-, rfl⟩ | ⟨r, v3, e3, -, -⟩, b3⟩
    · have b13 := Lib.hid (b12.out.trans (b3.mono b12.out.size))
      clear b3 b12 A2 R2 hff
      go_wp2_with fail
      go_quiet ((go_at_call 13; exact Calls.quiet_of (same_yes none none 0 0 0 [] _ (by omega) (rc_none _) (rc_none _))))
      go_wp2
      go_ret
      exact ⟨rfl, below_drewN b13.out _⟩
    · rw [hff.out] at e3; cases e3

set_option maxRecDepth 100000 in
set_option maxHeartbeats 1000000 in
theorem law_FnPeSection (a0 : Option Addr) (len0 cap0 : Nat) (z0 : List Int) (w : World) (w0 : IsRow .u8 w a0 len0 cap0 z0) (TE TU : TypeId) (vE vU : Value) (hErr : ErrsAt w TE TU vE vU) (h3 : 3 ≤ w.heap.size) :
    Calls Tryd.prog 5 #[.slice a0 len0 cap0] w fun e w' => e = .returned (.bool true) ∧ Below w.heap.size w w' := by
  obtain ⟨l, hl, hr, hc, hm⟩ := w0.bytes
  have hN := Lib.hid hl
  have hE := Lib.hid hErr
  clear hl w0 hm hErr
  by_cases hb : len0 ≤ 1048576
  ·
    exact lawSectionHeader32 a0 len0 cap0 l w hN hr hc hb TE TU vE vU hE h3
  · have hb1 : Hid (1048576 < len0) := Lib.hid (by omega)
    by_cases hb2 : len0 ≤ 2147483647
    · go_enter Tryd.func5, Tryd.ntmps5
      go_wp2
      go_ret
      exact ⟨rfl, Below.refl _ _⟩
    · go_enter Tryd.func5, Tryd.ntmps5
      go_wp2
      go_ret
      exact ⟨rfl, Below.refl _ _⟩

end Go.Proofs.YthnlimhpnonnmaaDoorRRR
