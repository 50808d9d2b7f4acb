/-
  The reference's table of texts; the walk of the law FnPeTexts.
-/
import Derived.Test.YthnlimhpnonnmaaDoorRRRPeTexts3
namespace Go.Proofs.YthnlimhpnonnmaaDoorRRR
set_option linter.unusedVariables false
set_option linter.unusedSimpArgs false
open Go Go.RowKit

set_option maxHeartbeats 400000 in
theorem specTexts_zero (n : Nat) (A : Option Addr) (len c : Nat) (w : World) (hn' : n ≤ 4294967295) :
    Calls Tryd.prog 27 #[.int .u32 0, .int .u32 n, .slice A len c] w fun e w' => e = .returned (.tuple #[.slice none 0 0, .bool true]) ∧ w = w' := by
  have q2 : IntKind.u64.wrap (n : Int) = (n : Int) := IntWalk.u64_in _ (by omega)
  have q3 : IntKind.u64.wrap (18 * (n : Int)) = 18 * (n : Int) := IntWalk.u64_in _ (by omega)
  go_enter Tryd.func27, Tryd.ntmps27
  go_wp2
  go_ret2
  exact ⟨rfl, rfl⟩

set_option maxRecDepth 100000 in
set_option maxHeartbeats 1000000 in
theorem specTexts_none1 (place n off : Nat) (A : Option Addr) (l : List UInt8) (len c : Nat) (w : World) (hpl : (place : Int) + 18 * (n : Int) = (off : Int)) (ho' : off ≤ 4294967296) (hn' : n ≤ 4294967295) (hN : Hid (len = l.length)) (hc : len ≤ c) (hb : len ≤ 2147483647) (hA : RB w A l) (hpos : l.length < off + 4) (hp : 0 < place) :
    Calls Tryd.prog 27 #[.int .u32 place, .int .u32 n, .slice A len c] w fun e w' => e = .returned (.tuple #[.slice none 0 0, .bool false]) ∧ w = w' := by
  have q1 : IntKind.u64.wrap (place : Int) = (place : Int) := IntWalk.u64_in _ (by omega)
  have q2 : IntKind.u64.wrap (n : Int) = (n : Int) := IntWalk.u64_in _ (by omega)
  have q3 : IntKind.u64.wrap (18 * (n : Int)) = 18 * (n : Int) := IntWalk.u64_in _ (by omega)
  have q4 : IntKind.u64.wrap ((place : Int) + 18 * (n : Int)) = (off : Int) := by rw [hpl]; exact IntWalk.u64_in _ (by omega)
  have q5 : IntKind.u64.wrap (len : Int) = (len : Int) := IntWalk.u64_in _ (by omega)
  have q6 : IntKind.u64.wrap ((off : Int) + 4) = (off : Int) + 4 := IntWalk.u64_in _ (by omega)
  have hn := hN.out
  have hp0 : ((place : Int) == 0) = false := by rw [beq_eq_false_iff_ne]; omega
  have hlt : (len : Int) < (off : Int) + 4 := by omega
  clear hn hpos
  go_enter Tryd.func27, Tryd.ntmps27
  go_wp2
  go_ret2
  exact ⟨rfl, rfl⟩

set_option maxRecDepth 100000 in
set_option maxHeartbeats 1000000 in
theorem specTexts_small (place n off : Nat) (A : Option Addr) (l : List UInt8) (len c : Nat) (w : World) (hpl : (place : Int) + 18 * (n : Int) = (off : Int)) (ho' : off ≤ 4294967296) (hn' : n ≤ 4294967295) (hN : Hid (len = l.length)) (hc : len ≤ c) (hb : len ≤ 2147483647) (hA : RB w A l) (hpos : off + 4 ≤ l.length) (hx : num false ((l.drop off).take 4) ≤ 4) (hp : 0 < place) :
    Calls Tryd.prog 27 #[.int .u32 place, .int .u32 n, .slice A len c] w fun e w' => e = .returned (.tuple #[.slice none 0 0, .bool true]) ∧ w = w' := by
  have q1 : IntKind.u64.wrap (place : Int) = (place : Int) := IntWalk.u64_in _ (by omega)
  have q2 : IntKind.u64.wrap (n : Int) = (n : Int) := IntWalk.u64_in _ (by omega)
  have q3 : IntKind.u64.wrap (18 * (n : Int)) = 18 * (n : Int) := IntWalk.u64_in _ (by omega)
  have q4 : IntKind.u64.wrap ((place : Int) + 18 * (n : Int)) = (off : Int) := by rw [hpl]; exact IntWalk.u64_in _ (by omega)
  have q5 : IntKind.u64.wrap (len : Int) = (len : Int) := IntWalk.u64_in _ (by omega)
  have q6 : IntKind.u64.wrap ((off : Int) + 4) = (off : Int) + 4 := IntWalk.u64_in _ (by omega)
  have hn := hN.out
  have hp0 : ((place : Int) == 0) = false := by rw [beq_eq_false_iff_ne]; omega
  have hlt : ¬ ((len : Int) < (off : Int) + 4) := by omega
  have hol : off ≤ len := by omega
  have hs0 : (0 : Int) ≤ (off : Int) := by omega
  have hs1 : (off : Int) ≤ (len : Int) := by omega
  have hsl : ∀ W, (Instr.slice 22 (.slice A len c) (some (.int .u64 (off : Int))) none none).run Tryd.prog W = .ok (.slice (slA A c off) (len - off) (c - off)) W := fun W => run_slice_from (P := Tryd.prog) Tryd.underlying22 (info_parts Tryd.infoByte).choose_spec.1 (info_parts Tryd.infoByte).choose_spec.2.2.1 A len c off .u64 hol W
  have hnum : Hid (Calls Tryd.prog 30 #[.bool false, .int .i64 4, .slice (slA A c off) (len - off) (c - off)] w fun e w' => e = .returned (.int .u64 (num false ((l.drop off).take 4) : Nat)) ∧ w = w') := Lib.hid (specNumber_any false (slA A c off) (l.drop off) (len - off) (c - off) 4 (by rw [List.length_drop, ← hn]) (by omega) (by omega) w (hA.drop (by omega) off))
  have hle : ((num false ((l.drop off).take 4) : Nat) : Int) ≤ 4 := by omega
  clear hn hpos hx
  go_enter Tryd.func27, Tryd.ntmps27
  go_wp2_with fail
  refine hnum.out.mono ?_
  rintro e w' ⟨rfl, rfl⟩
  go_wp2
  go_ret2
  exact ⟨rfl, rfl⟩

set_option maxRecDepth 100000 in
set_option maxHeartbeats 1000000 in
theorem specTexts_none2 (place n off m : Nat) (A : Option Addr) (l : List UInt8) (len c : Nat) (w : World) (hpl : (place : Int) + 18 * (n : Int) = (off : Int)) (ho' : off ≤ 4294967296) (hn' : n ≤ 4294967295) (hN : Hid (len = l.length)) (hc : len ≤ c) (hb : len ≤ 2147483647) (hA : RB w A l) (hpos : off + 4 ≤ l.length) (hx : num false ((l.drop off).take 4) = m + 4) (hm : 0 < m) (hbad : l.length < off + (m + 4)) (hp : 0 < place) :
    Calls Tryd.prog 27 #[.int .u32 place, .int .u32 n, .slice A len c] w fun e w' => e = .returned (.tuple #[.slice none 0 0, .bool false]) ∧ w = w' := by
  have q1 : IntKind.u64.wrap (place : Int) = (place : Int) := IntWalk.u64_in _ (by omega)
  have q2 : IntKind.u64.wrap (n : Int) = (n : Int) := IntWalk.u64_in _ (by omega)
  have q3 : IntKind.u64.wrap (18 * (n : Int)) = 18 * (n : Int) := IntWalk.u64_in _ (by omega)
  have q4 : IntKind.u64.wrap ((place : Int) + 18 * (n : Int)) = (off : Int) := by rw [hpl]; exact IntWalk.u64_in _ (by omega)
  have q5 : IntKind.u64.wrap (len : Int) = (len : Int) := IntWalk.u64_in _ (by omega)
  have q6 : IntKind.u64.wrap ((off : Int) + 4) = (off : Int) + 4 := IntWalk.u64_in _ (by omega)
  have hn := hN.out
  have hp0 : ((place : Int) == 0) = false := by rw [beq_eq_false_iff_ne]; omega
  have hlt : ¬ ((len : Int) < (off : Int) + 4) := by omega
  have hol : off ≤ len := by omega
  have hs0 : (0 : Int) ≤ (off : Int) := by omega
  have hs1 : (off : Int) ≤ (len : Int) := by omega
  have hsl : ∀ W, (Instr.slice 22 (.slice A len c) (some (.int .u64 (off : Int))) none none).run Tryd.prog W = .ok (.slice (slA A c off) (len - off) (c - off)) W := fun W => run_slice_from (P := Tryd.prog) Tryd.underlying22 (info_parts Tryd.infoByte).choose_spec.1 (info_parts Tryd.infoByte).choose_spec.2.2.1 A len c off .u64 hol W
  have hnum : Hid (Calls Tryd.prog 30 #[.bool false, .int .i64 4, .slice (slA A c off) (len - off) (c - off)] w fun e w' => e = .returned (.int .u64 (num false ((l.drop off).take 4) : Nat)) ∧ w = w') := Lib.hid (specNumber_any false (slA A c off) (l.drop off) (len - off) (c - off) 4 (by rw [List.length_drop, ← hn]) (by omega) (by omega) w (hA.drop (by omega) off))
  rw [hx] at hnum
  have em : ((m + 4 : Nat) : Int) = (m : Int) + 4 := by omega
  rw [em] at hnum
  have q7 : ¬ ((m : Int) + 4 ≤ 4) := by omega
  have q7' : ¬ ((m : Int) ≤ 0) := by omega
  have hxb := num_lt false ((l.drop off).take 4)
  have hxl : ((l.drop off).take 4).length = 4 := by simp; omega
  rw [hxl, hx] at hxb
  simp only [Nat.reducePow] at hxb
  have q8 : IntKind.u64.wrap ((off : Int) + ((m : Int) + 4)) = (off : Int) + ((m : Int) + 4) := IntWalk.u64_in _ (by omega)
  have q9 : (len : Int) < (off : Int) + ((m : Int) + 4) := by omega
  clear hn hpos hx hxl em hbad
  go_enter Tryd.func27, Tryd.ntmps27
  go_wp2_with fail
  refine hnum.out.mono ?_
  rintro e w' ⟨rfl, rfl⟩
  go_wp2
  go_ret2
  exact ⟨rfl, rfl⟩

set_option maxRecDepth 100000 in
set_option maxHeartbeats 1000000 in
theorem specTexts_ok (place n off m : Nat) (A : Option Addr) (l : List UInt8) (len c : Nat) (w : World) (hpl : (place : Int) + 18 * (n : Int) = (off : Int)) (ho' : off ≤ 4294967296) (hn' : n ≤ 4294967295) (hN : Hid (len = l.length)) (hc : len ≤ c) (hb : len ≤ 2147483647) (hA : RB w A l) (hx : num false ((l.drop off).take 4) = m + 4) (hm : 0 < m) (hpos : off + (m + 4) ≤ l.length) (hp : 0 < place) :
    Calls Tryd.prog 27 #[.int .u32 place, .int .u32 n, .slice A len c] w fun e w' => e = .returned (.tuple #[.slice (slA A c (off + 4)) m (c - (off + 4)), .bool true]) ∧ w = w' := by
  have q1 : IntKind.u64.wrap (place : Int) = (place : Int) := IntWalk.u64_in _ (by omega)
  have q2 : IntKind.u64.wrap (n : Int) = (n : Int) := IntWalk.u64_in _ (by omega)
  have q3 : IntKind.u64.wrap (18 * (n : Int)) = 18 * (n : Int) := IntWalk.u64_in _ (by omega)
  have q4 : IntKind.u64.wrap ((place : Int) + 18 * (n : Int)) = (off : Int) := by rw [hpl]; exact IntWalk.u64_in _ (by omega)
  have q5 : IntKind.u64.wrap (len : Int) = (len : Int) := IntWalk.u64_in _ (by omega)
  have q6 : IntKind.u64.wrap ((off : Int) + 4) = (off : Int) + 4 := IntWalk.u64_in _ (by omega)
  have hn := hN.out
  have hp0 : ((place : Int) == 0) = false := by rw [beq_eq_false_iff_ne]; omega
  have hlt : ¬ ((len : Int) < (off : Int) + 4) := by omega
  have hol : off ≤ len := by omega
  have hs0 : (0 : Int) ≤ (off : Int) := by omega
  have hs1 : (off : Int) ≤ (len : Int) := by omega
  have hsl : ∀ W, (Instr.slice 22 (.slice A len c) (some (.int .u64 (off : Int))) none none).run Tryd.prog W = .ok (.slice (slA A c off) (len - off) (c - off)) W := fun W => run_slice_from (P := Tryd.prog) Tryd.underlying22 (info_parts Tryd.infoByte).choose_spec.1 (info_parts Tryd.infoByte).choose_spec.2.2.1 A len c off .u64 hol W
  have hnum : Hid (Calls Tryd.prog 30 #[.bool false, .int .i64 4, .slice (slA A c off) (len - off) (c - off)] w fun e w' => e = .returned (.int .u64 (num false ((l.drop off).take 4) : Nat)) ∧ w = w') := Lib.hid (specNumber_any false (slA A c off) (l.drop off) (len - off) (c - off) 4 (by rw [List.length_drop, ← hn]) (by omega) (by omega) w (hA.drop (by omega) off))
  rw [hx] at hnum
  have em : ((m + 4 : Nat) : Int) = (m : Int) + 4 := by omega
  rw [em] at hnum
  have q7 : ¬ ((m : Int) + 4 ≤ 4) := by omega
  have q7' : ¬ ((m : Int) ≤ 0) := by omega
  have hxb := num_lt false ((l.drop off).take 4)
  have hxl : ((l.drop off).take 4).length = 4 := by simp; omega
  rw [hxl, hx] at hxb
  simp only [Nat.reducePow] at hxb
  have q8 : IntKind.u64.wrap ((off : Int) + ((m : Int) + 4)) = (off : Int) + ((m : Int) + 4) := IntWalk.u64_in _ (by omega)
  have q9 : ¬ ((len : Int) < (off : Int) + ((m : Int) + 4)) := by omega
  have hsl2 : ∀ W, (Instr.slice 22 (.slice A len c) (some (.int .u64 ((off : Int) + 4))) (some (.int .u64 ((off : Int) + ((m : Int) + 4)))) none).run Tryd.prog W = .ok (.slice (slA A c (off + 4)) m (c - (off + 4))) W := fun W => by
    have h := run_slice_mid (P := Tryd.prog) Tryd.underlying22 (info_parts Tryd.infoByte).choose_spec.1 (info_parts Tryd.infoByte).choose_spec.2.2.1 A len c (off + 4) (off + (m + 4)) .u64 .u64 (by omega) (by omega) W
    rw [show ((off : Int) + 4) = ((off + 4 : Nat) : Int) by omega, show ((off : Int) + ((m : Int) + 4)) = ((off + (m + 4) : Nat) : Int) by omega]
    rw [show off + (m + 4) - (off + 4) = m by omega] at h
    exact h
  have hs2 : (0 : Int) ≤ (off : Int) + 4 := by omega
  have hs3 : (off : Int) + 4 ≤ (off : Int) + ((m : Int) + 4) := by omega
  have hs4 : (off : Int) + ((m : Int) + 4) ≤ (c : Int) := by omega
  clear hn hpos hx hxl em
  go_enter Tryd.func27, Tryd.ntmps27
  go_wp2_with fail
  refine hnum.out.mono ?_
  rintro e w' ⟨rfl, rfl⟩
  go_wp2
  go_ret2
  exact ⟨rfl, rfl⟩

theorem specTexts_some (place n off : Nat) (A : Option Addr) (l r : List UInt8) (len c : Nat) (w : World) (hpl : (place : Int) + 18 * (n : Int) = (off : Int)) (ho' : off ≤ 4294967296) (hn' : n ≤ 4294967295) (hN : Hid (len = l.length)) (hc : len ≤ c) (hb : len ≤ 2147483647) (hA : RB w A l) (hr : textsAt place off l = some r) :
    Calls Tryd.prog 27 #[.int .u32 place, .int .u32 n, .slice A len c] w fun e w' => (∃ B d, e = .returned (.tuple #[.slice B r.length d, .bool true]) ∧ Hid (RB w' B r)) ∧ w = w' := by
  have hn := hN.out
  unfold textsAt at hr
  by_cases h0 : place = 0
  · rw [if_pos h0] at hr
    obtain rfl := Option.some.inj hr
    subst h0
    exact (specTexts_zero n A len c w hn').mono fun e w' ⟨he, hw⟩ => ⟨⟨none, 0, he, Lib.hid (RB.nil _ _)⟩, hw⟩
  · rw [if_neg h0] at hr
    by_cases h1 : l.length < off + 4
    · rw [if_pos h1] at hr; cases hr
    · rw [if_neg h1] at hr
      by_cases h2 : num false ((l.drop off).take 4) ≤ 4
      · rw [if_pos h2] at hr
        obtain rfl := Option.some.inj hr
        exact (specTexts_small place n off A l len c w hpl ho' hn' hN hc hb hA (by omega) h2 (by omega)).mono fun e w' ⟨he, hw⟩ => ⟨⟨none, 0, he, Lib.hid (RB.nil _ _)⟩, hw⟩
      · rw [if_neg h2] at hr
        obtain ⟨m, hm⟩ : ∃ m, num false ((l.drop off).take 4) = m + 4 := ⟨_, (Nat.sub_add_cancel (by omega)).symm⟩
        rw [hm] at hr h2
        by_cases h3 : l.length < off + (m + 4)
        · rw [if_pos h3] at hr; cases hr
        · rw [if_neg h3, Nat.add_sub_cancel] at hr
          obtain rfl := Option.some.inj hr
          have hlen : ((l.drop (off + 4)).take m).length = m := by simp; omega
          refine (specTexts_ok place n off m A l len c w hpl ho' hn' hN hc hb hA hm (by omega) (by omega) (by omega)).mono ?_
          rintro e w' ⟨rfl, rfl⟩
          rw [hlen]
          exact ⟨⟨_, _, rfl, Lib.hid ((hA.drop (by omega) (off + 4)).take m)⟩, rfl⟩

theorem specTexts_none (place n off : Nat) (A : Option Addr) (l : List UInt8) (len c : Nat) (w : World) (hpl : (place : Int) + 18 * (n : Int) = (off : Int)) (ho' : off ≤ 4294967296) (hn' : n ≤ 4294967295) (hN : Hid (len = l.length)) (hc : len ≤ c) (hb : len ≤ 2147483647) (hA : RB w A l) (hr : textsAt place off l = none) :
    Calls Tryd.prog 27 #[.int .u32 place, .int .u32 n, .slice A len c] w fun e w' => e = .returned (.tuple #[.slice none 0 0, .bool false]) ∧ w = w' := by
  have hn := hN.out
  unfold textsAt at hr
  by_cases h0 : place = 0
  · rw [if_pos h0] at hr; cases hr
  · rw [if_neg h0] at hr
    by_cases h1 : l.length < off + 4
    · exact specTexts_none1 place n off A l len c w hpl ho' hn' hN hc hb hA h1 (by omega)
    · rw [if_neg h1] at hr
      by_cases h2 : num false ((l.drop off).take 4) ≤ 4
      · rw [if_pos h2] at hr; cases hr
      · rw [if_neg h2] at hr
        obtain ⟨m, hm⟩ : ∃ m, num false ((l.drop off).take 4) = m + 4 := ⟨_, (Nat.sub_add_cancel (by omega)).symm⟩
        rw [hm] at hr h2
        by_cases h3 : l.length < off + (m + 4)
        · exact specTexts_none2 place n off m A l len c w hpl ho' hn' hN hc hb hA (by omega) hm (by omega) h3 (by omega)
        · rw [if_neg h3] at hr; cases hr

set_option maxRecDepth 100000 in
set_option maxHeartbeats 1000000 in
theorem lawTexts (a0 a1 : Nat) (a2 : Option Addr) (len2 cap2 : Nat) (l : List UInt8) (w : World) (hN : Hid (len2 = l.length)) (hr : RB w a2 l) (hc : len2 ≤ cap2) (hb : len2 ≤ 1048576) (hn300 : a1 ≤ 300) (hp31 : a0 ≤ 2147483648) (TE TU : TypeId) (vE vU : Value) (hE : Hid (ErrsAt w TE TU vE vU)) (h3 : 3 ≤ w.heap.size) :
    Calls Tryd.prog 9 #[.int .u32 a0, .int .u16 a1, .slice a2 len2 cap2] w fun e w' => e = .returned (.bool true) ∧ Below w.heap.size w w' := by
  have hg0 : ¬ (2147483647 : Int) < (len2 : Int) := by omega
  have hg1 : ¬ (2147483648 : Int) < (a0 : Int) := by omega
  have hg2 : ¬ (300 : Int) < (a1 : Int) := by omega
  have hg3 : ¬ (1048576 : Int) < (len2 : Int) := by omega
  have hw : IntKind.u32.wrap (a1 : Int) = (a1 : Int) := by rw [IntKind.wrap_u32]; omega
  have hpl : (a0 : Int) + 18 * (a1 : Int) = ((a0 + 18 * a1 : Nat) : Int) := by omega
  cases hx : textsAt a0 (a0 + 18 * a1) l with
  | some r =>
    have C1 := Lib.hid (implTexts_some a0 a1 (a0 + 18 * a1) a2 l r len2 cap2 w h3 hpl (by omega) (by omega) hN hb hr hx)
    have C2 := Lib.hid (fun (W : World) (hbw : Below w.heap.size w W) => specTexts_some a0 a1 (a0 + 18 * a1) a2 l r len2 cap2 W hpl (by omega) (by omega) hN hc (by omega) (hr.later hbw) hx)
    clear hpl hx
    go_enter Tryd.func9, Tryd.ntmps9
    go_wp2_with fail
    refine C1.out.mono ?_
    rintro e w1 ⟨⟨B1, d1, rfl, R1⟩, b1⟩
    go_wp2_with fail
    refine (C2.out w1 b1).mono ?_
    rintro e w' ⟨⟨B2, d2, rfl, R2⟩, rfl⟩
    have hcv1 := run_conv_RB (P := Tryd.prog) Tryd.underlying22 Tryd.underlying5 Tryd.underlying9 R1.out (n := r.length) (c := d1) rfl
    have hcv2 := run_conv_RB (P := Tryd.prog) Tryd.underlying22 Tryd.underlying5 Tryd.underlying9 R2.out (n := r.length) (c := d2) rfl
    replace b1 := Lib.hid b1
    go_wp2
    go_ret
    exact ⟨rfl, b1.out⟩
  | none =>
    have C1 := Lib.hid (implTexts_none a0 a1 (a0 + 18 * a1) a2 l len2 cap2 w TE TU vE vU hE h3 hpl (by omega) (by omega) hN hb hr hx)
    have C2 := Lib.hid (fun (W : World) (hbw : Below w.heap.size w W) => specTexts_none a0 a1 (a0 + 18 * a1) a2 l len2 cap2 W hpl (by omega) (by omega) hN hc (by omega) (hr.later hbw) hx)
    clear hpl hx
    go_enter Tryd.func9, Tryd.ntmps9
    go_wp2_with fail
    refine C1.out.mono ?_
    rintro e w1 ⟨rfl, b1⟩
    go_wp2_with fail
    refine (C2.out w1 b1).mono ?_
    rintro e w' ⟨rfl, rfl⟩
    have hcv1 := run_conv_RB (P := Tryd.prog) Tryd.underlying22 Tryd.underlying5 Tryd.underlying9 (RB.nil w1 none) (n := 0) (c := 0) rfl
    replace b1 := Lib.hid b1
    go_wp2
    go_ret
    exact ⟨rfl, b1.out⟩

set_option maxHeartbeats 1000000 in
theorem lawTexts_off (a0 a1 : Nat) (a2 : Option Addr) (len2 cap2 : Nat) (w : World) (h : 2147483647 < len2 ∨ (len2 ≤ 2147483647 ∧ 300 < a1) ∨ (len2 ≤ 2147483647 ∧ a1 ≤ 300 ∧ 2147483648 < a0) ∨ (len2 ≤ 2147483647 ∧ a1 ≤ 300 ∧ a0 ≤ 2147483648 ∧ 1048576 < len2)) :
    Calls Tryd.prog 9 #[.int .u32 a0, .int .u16 a1, .slice a2 len2 cap2] w fun e w' => e = .returned (.bool true) ∧ Below w.heap.size w w' := by
  rcases h with h | ⟨h1, h⟩ | ⟨h1, h2, h⟩ | ⟨h1, h2, h3, h⟩
  · have g : (2147483647 : Int) < (len2 : Int) := by omega
    go_enter Tryd.func9, Tryd.ntmps9
    go_wp2
    go_ret
    exact ⟨rfl, Below.refl _ _⟩
  · have g1 : ¬ (2147483647 : Int) < (len2 : Int) := by omega
    have g : (300 : Int) < (a1 : Int) := by omega
    go_enter Tryd.func9, Tryd.ntmps9
    go_wp2
    go_ret
    exact ⟨rfl, Below.refl _ _⟩
  · have g1 : ¬ (2147483647 : Int) < (len2 : Int) := by omega
    have g2 : ¬ (300 : Int) < (a1 : Int) := by omega
    have g : (2147483648 : Int) < (a0 : Int) := by omega
    go_enter Tryd.func9, Tryd.ntmps9
    go_wp2
    go_ret
    exact ⟨rfl, Below.refl _ _⟩
  · have g1 : ¬ (2147483647 : Int) < (len2 : Int) := by omega
    have g2 : ¬ (300 : Int) < (a1 : Int) := by omega
    have g3 : ¬ (2147483648 : Int) < (a0 : Int) := by omega
    have g : (1048576 : Int) < (len2 : Int) := by omega
    go_enter Tryd.func9, Tryd.ntmps9
    go_wp2
    go_ret
    exact ⟨rfl, Below.refl _ _⟩

theorem law_FnPeTexts (a0 a1 : Int) (a2 : Option Addr) (len2 cap2 : Nat) (z2 : List Int) (w : World) (w0 : (Lit.int .u32 a0).wf = true) (w1 : (Lit.int .u16 a1).wf = true) (w2 : IsRow .u8 w a2 len2 cap2 z2) (TE TU : TypeId) (vE vU : Value) (hErr : ErrsAt w TE TU vE vU) (h3 : 3 ≤ w.heap.size) :
    Calls Tryd.prog 9 #[.int .u32 a0, .int .u16 a1, .slice a2 len2 cap2] w fun e w' => e = .returned (.bool true) ∧ Below w.heap.size w w' := by
  obtain ⟨l, hl, hr, hc, hm⟩ := w2.bytes
  have hN := Lib.hid hl
  have hE := Lib.hid hErr
  obtain ⟨p, rfl, -⟩ := u32_wf w0
  obtain ⟨n, rfl, -⟩ := u16_wf w1
  clear hl w2 hm hErr w0 w1
  by_cases h1 : 2147483647 < len2
  · exact lawTexts_off p n a2 len2 cap2 w (.inl h1)
  by_cases h2 : 300 < n
  · exact lawTexts_off p n a2 len2 cap2 w (.inr (.inl ⟨by omega, h2⟩))
  by_cases h4 : 2147483648 < p
  · exact lawTexts_off p n a2 len2 cap2 w (.inr (.inr (.inl ⟨by omega, by omega, h4⟩)))
  by_cases h5 : 1048576 < len2
  · exact lawTexts_off p n a2 len2 cap2 w (.inr (.inr (.inr ⟨by omega, by omega, by omega, h5⟩)))
  exact lawTexts p n a2 len2 cap2 l w hN hr hc (by omega) (by omega) (by omega) TE TU vE vU hE h3
end Go.Proofs.YthnlimhpnonnmaaDoorRRR
