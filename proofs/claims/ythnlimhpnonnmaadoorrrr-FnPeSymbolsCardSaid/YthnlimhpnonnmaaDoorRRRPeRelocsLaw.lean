/-
  The reference's relocations; the walk of the law FnPeRelocs.
-/
import Derived.Test.YthnlimhpnonnmaaDoorRRRPeReloc2
import Derived.Test.YthnlimhpnonnmaaDoorRRRPeCoffLaw
namespace Go.Proofs.YthnlimhpnonnmaaDoorRRR
set_option linter.unusedVariables false
set_option linter.unusedSimpArgs false
open Go Go.RowKit
attribute [local go_sem ↓] Go.wp_at_zero Go.wp_at_succ

theorem owns_later {w w' : World} {base : Nat} {e : TypeId} {size : Nat} {v : Value} {n : Nat} {xs : List Value} (h : w.ownsRow base e size v n xs) (hb : Below w.heap.size w w') : w'.ownsRow base e size v n xs :=
  h.kept (row := none) ⟨hb.os, hb.tape, hb.output, hb.size, fun x hx _ => hb.block x hx⟩ (by cases hq : v.ownBlock <;> simp)

/-- The reference's numbers where there are bytes enough. -/
theorem fields_ok (big : Bool) (A Bs : Option Addr) (l : List UInt8) (ws : List Int) (n c m d : Nat) (hn : Hid (n = l.length)) (hc : n ≤ c) (hb : n ≤ 2147483647) (hm : Hid (m = ws.length)) (hm1 : m ≤ 1000) (hws : Hid (∀ x ∈ ws, -1000 ≤ x ∧ x ≤ 8)) (w : World) (hA : Hid (RB w A l)) (hW : Hid (RC w Bs 1 m (ws.map iv))) (hZ : Hid (widthOf ws ≤ l.length)) (K : Nat) (hK : Hid ((numsOf big ws l).length = K)) :
    Calls Tryd.prog 11 #[.bool big, .slice Bs m d, .slice A n c] w fun e w' => (∃ B d', e = .returned (.tuple #[.slice B K d', .bool true]) ∧ Hid (RT w' 64 B 1 K ((numsOf big ws l).map uv))) ∧ Below w.heap.size w w' := by
  refine (fields_any big A Bs l ws n c m d hn hc hb hm hm1 hws w hA hW).mono ?_
  have hf := fieldsOf_all big ws l
  rw [if_neg (by have := hZ.out; omega)] at hf
  rintro e w' ⟨h | ⟨r, v, e3, rfl, own⟩, hbl⟩
  · rw [hf] at h; cases h.1
  · obtain rfl := Option.some.inj (hf.symm.trans e3)
    obtain ⟨B, d', rfl, hR, -, -⟩ := RT.of_owns own
    rw [hK.out] at hR ⊢
    exact ⟨⟨B, d', rfl, Lib.hid hR⟩, hbl⟩

theorem relocNums_eq (l : List UInt8) (place n k : Nat) (hk : k < n) : numsOf false [4, 4, 2] (l.drop (place + 10 * k)) = relocNums ((l.drop place).take (10 * n)) k := by
  have h1 : min 4 (10 * n - 10 * k) = 4 := by omega
  have h2 : min 4 (10 * n - (10 * k + 4)) = 4 := by omega
  have h3 : min 2 (10 * n - (10 * k + 8)) = 2 := by omega
  simp [numsOf, relocNums, List.drop_take, List.take_take, List.drop_drop, h1, h2, h3, Nat.add_assoc]

set_option maxHeartbeats 400000 in
theorem peReloc_any (w : World) :
    Calls Tryd.prog 38 #[] w fun e w' => (∃ v, e = .returned (.slice v 3 3) ∧ RC w' v 1 3 (([4, 4, 2] : List Int).map iv)) ∧ Below w.heap.size w w' := by
  go_enter Tryd.func38, Tryd.ntmps38
  go_wp2
  go_ret
  exact ⟨⟨_, rfl, rc_new rfl rfl⟩, (Below.refl _ _).alloc (Nat.le_refl _) _⟩

set_option maxHeartbeats 400000 in
theorem specRelocs_zero (place : Nat) (A : Option Addr) (len c : Nat) (w : World) :
    Calls Tryd.prog 22 #[.int .u32 place, .int .u16 0, .slice A len c] w fun e w' => e = .returned (.tuple #[.slice (some ⟨w.heap.size, 0, none⟩) 0 0, .bool true]) ∧ Below w.heap.size w w' := by
  go_enter Tryd.func22, Tryd.ntmps22
  go_wp2
  go_ret2
  exact ⟨rfl, (Below.refl _ _).alloc (Nat.le_refl _) _⟩

set_option maxRecDepth 100000 in
set_option maxHeartbeats 1000000 in
theorem specRelocs_short (place n : Nat) (A : Option Addr) (l : List UInt8) (len c : Nat) (w : World) (hn : 0 < n) (hn' : n ≤ 65535) (hpl : place ≤ 4294967295) (hN : Hid (len = l.length)) (hb : len ≤ 2147483647) (hpos : Hid (l.length < place + 10 * n)) :
    Calls Tryd.prog 22 #[.int .u32 place, .int .u16 n, .slice A len c] w fun e w' => e = .returned (.tuple #[.slice none 0 0, .bool false]) ∧ Below w.heap.size w w' := by
  have q1 : IntKind.u64.wrap (place : Int) = (place : Int) := IntWalk.u64_in _ (by omega)
  have q2 : IntKind.u64.wrap (n : Int) = (n : Int) := IntWalk.u64_in _ (by omega)
  have q3 : IntKind.u64.wrap (10 * (n : Int)) = 10 * (n : Int) := IntWalk.u64_in _ (by omega)
  have q4 : IntKind.u64.wrap ((place : Int) + 10 * (n : Int)) = (place : Int) + 10 * (n : Int) := IntWalk.u64_in _ (by omega)
  have q5 : IntKind.u64.wrap (len : Int) = (len : Int) := IntWalk.u64_in _ (by omega)
  have hlt : (len : Int) < (place : Int) + 10 * (n : Int) := by have := hN.out; have := hpos.out; omega
  have hn0 : ((n : Int) == 0) = false := by rw [beq_eq_false_iff_ne]; omega
  go_enter Tryd.func22, Tryd.ntmps22
  go_wp2
  go_ret2
  exact ⟨rfl, (Below.refl _ _).alloc (Nat.le_refl _) _⟩

set_option maxRecDepth 100000 in
set_option maxHeartbeats 1000000 in
theorem specRelocs_all (place n : Nat) (A : Option Addr) (l : List UInt8) (len c : Nat) (w : World) (hn : 0 < n) (hn' : n ≤ 65535) (hpl : place ≤ 4294967295) (hN : Hid (len = l.length)) (hc : len ≤ c) (hb : len ≤ 2147483647) (hA : Hid (RB w A l)) (hpos : Hid (place + 10 * n ≤ l.length)) :
    Calls Tryd.prog 22 #[.int .u32 place, .int .u16 n, .slice A len c] w fun e w' => (∃ v vs, e = .returned (.tuple #[v, .bool true]) ∧ Hid (w'.ownsRow w.heap.size 23 1 v n vs) ∧ Hid (Recs IsNums w' 1 n vs ((List.range n).map (relocNums ((l.drop place).take (10 * n)))))) ∧ Below w.heap.size w w' := by
  obtain ⟨i0, hi, hz0, hz1, hz2⟩ := info_parts Tryd.infoNums
  have hp := hpos.out
  have hl := hN.out
  have q1 : IntKind.u64.wrap (place : Int) = (place : Int) := IntWalk.u64_in _ (by omega)
  have q2 : IntKind.u64.wrap (n : Int) = (n : Int) := IntWalk.u64_in _ (by omega)
  have q3 : IntKind.u64.wrap (10 * (n : Int)) = 10 * (n : Int) := IntWalk.u64_in _ (by omega)
  have q4 : IntKind.u64.wrap ((place : Int) + 10 * (n : Int)) = (place : Int) + 10 * (n : Int) := IntWalk.u64_in _ (by omega)
  have q5 : IntKind.u64.wrap (len : Int) = (len : Int) := IntWalk.u64_in _ (by omega)
  have q6 : IntKind.i64.wrap (n : Int) = (n : Int) := IntWalk.i64_in _ (by omega)
  have q7 : IntKind.i64.wrap (place : Int) = (place : Int) := IntWalk.i64_in _ (by omega)
  have hlt : ¬ ((len : Int) < (place : Int) + 10 * (n : Int)) := by omega
  have hn0 : ((n : Int) == 0) = false := by rw [beq_eq_false_iff_ne]; omega
  have hpn : place + 10 * n ≤ len := by omega
  clear hp hl
  go_enter Tryd.func22, Tryd.ntmps22
  go_wp2
  go_loopw [8, 28] (fun v i wr => ∃ (k : Nat) (vs : List Value), k ≤ n ∧ i = .int .i64 k ∧ Hid (wr.ownsRow w.heap.size 23 1 v k vs) ∧ Hid (Recs IsNums wr 1 k vs ((List.range k).map (relocNums ((l.drop place).take (10 * n))))) ∧ Hid (Below w.heap.size w wr)) (fun _ i _ => n - (intOf i).toNat)
  case atStart => exact ⟨0, [], Nat.zero_le _, rfl, Lib.hid (World.ownsRow_made w #[] 0 (Nat.le_refl _) (by simp [maxLen]) (by simp)), Lib.hid (Recs.nil _ _ _), Lib.hid ((Below.refl _ _).alloc (Nat.le_refl _) _)⟩
  case round =>
    obtain ⟨k, vs, hk, rfl, hown, hrec, hbl⟩ := hrel
    have hz := hbl.out.size
    by_cases hkn : k < n
    · have q8 : IntKind.i64.wrap (10 * (k : Int)) = 10 * (k : Int) := IntWalk.i64_in _ (by omega)
      have q9 : IntKind.i64.wrap ((place : Int) + 10 * (k : Int)) = (place : Int) + 10 * (k : Int) := IntWalk.i64_in _ (by omega)
      have hsl : ∀ W, (Instr.slice 22 (.slice A len c) (some (.int .i64 ((place : Int) + 10 * (k : Int)))) none none).run Tryd.prog W = .ok (.slice (slA A c (place + 10 * k)) (len - (place + 10 * k)) (c - (place + 10 * k))) W := fun W => by
        rw [show ((place : Int) + 10 * (k : Int)) = ((place + 10 * k : Nat) : Int) by omega]
        exact run_slice_from (P := Tryd.prog) Tryd.underlying22 (info_parts Tryd.infoByte).choose_spec.1 (info_parts Tryd.infoByte).choose_spec.2.2.1 A len c (place + 10 * k) .i64 (by omega) W
      have hs0 : (0 : Int) ≤ (place : Int) + 10 * (k : Int) := by omega
      have hs1 : (place : Int) + 10 * (k : Int) ≤ (len : Int) := by omega
      have Ak := Lib.hid ((hA.out.later hbl.out).drop (c := c) (by have := hN.out; omega) (place + 10 * k))
      have hN2 := Lib.hid (show len - (place + 10 * k) = (l.drop (place + 10 * k)).length by rw [List.length_drop, ← hN.out])
      have hZ2 := Lib.hid (show widthOf [4, 4, 2] ≤ (l.drop (place + 10 * k)).length by rw [← hN2.out]; show 10 ≤ _; omega)
      have hK2 := Lib.hid (show (numsOf false [4, 4, 2] (l.drop (place + 10 * k))).length = 3 from rfl)
      have hcl : len - (place + 10 * k) ≤ c - (place + 10 * k) := by omega
      have hne := Lib.hid (relocNums_eq l place n k hkn)
      go_wp2_with fail
      go_region_held3 (fun _ => True) (trivial) (first | (go_at_call 38; refine (peReloc_any _).mono ?_; rintro e w2 ⟨⟨vW, rfl, RW⟩, b2⟩; (try replace b2 := Below.undrew b2); have A2 := Lib.hid (Ak.out.later b2); replace RW := Lib.hid RW; replace b2 := Lib.hid b2) | (go_at_call 11; refine (fields_ok false (slA A c (place + 10 * k)) vW (l.drop (place + 10 * k)) [4, 4, 2] (len - (place + 10 * k)) (c - (place + 10 * k)) 3 3 hN2 hcl (by omega) (Lib.hid rfl) (by omega) (Lib.hid (by decide)) w2 A2 RW hZ2 3 hK2).mono ?_; rintro e w3 ⟨⟨B3, d3, rfl, R3⟩, b3⟩; replace b3 := Lib.hid b3))
      have b13 := Lib.hid (b2.out.trans (b3.out.mono b2.out.size))
      have own3 := Lib.hid (owns_later hown.out b13.out)
      have hz3 := b13.out.size
      have own4 := Lib.hid (own3.out.alloc (.cells #[.slice B3 3 d3] 23))
      have b14 := Lib.hid (b13.out.alloc hz3 (.cells #[.slice B3 3 d3] 23))
      go_wp2_with (at_builtin; refine Stop.mk ?_)
      refine Stop.go ?_
      refine wpList_append_any rfl (.tmp 43) (.tmp 45) 44 rfl w.heap.size 23 i0 (.slice none 0 0) 1 24 Tryd.underlying44 hi hz0 hz1 hz2 rfl (by omega) _ k vs rfl own4.out (some ⟨w3.heap.size, 0, none⟩) 1 1 [.slice B3 3 d3] rfl (RC.one (World.cell?_alloc_new _ _ _ _)) (List.all_eq_true.1 rfl) (by simp only [maxLen]; omega) (by omega) (by simp; omega) ?_
      intro v1 w1 hown1 hg1 hat1
      have hk3 := Keeps.of_grown own4.out hg1
      have hnew : IsNums w1 [.slice B3 3 d3] (relocNums ((l.drop place).take (10 * n)) k) := by
        rw [← hne.out]
        exact (show IsNums _ _ _ from ⟨B3, d3, rfl, R3.out.later ((Below.refl _ _).alloc (Nat.le_refl _) _)⟩).keeps hk3 (by decide)
      have hrec1 := Lib.hid (((hrec.out.mono (fun c x h => (h.later b14.out).keeps hk3 (by decide))).push (c := [.slice B3 3 d3]) rfl hnew))
      have er : (List.range k).map (relocNums ((l.drop place).take (10 * n))) ++ [relocNums ((l.drop place).take (10 * n)) k] = (List.range (k + 1)).map (relocNums ((l.drop place).take (10 * n))) := by rw [List.range_succ, List.map_append]; rfl
      rw [er] at hrec1
      have hb1 := Lib.hid ((hbl.out.trans (b14.out.mono hz)).grown hg1 (by simp; omega) (fun q hq => (own4.out.lt q hq).1))
      replace hown1 := Lib.hid hown1
      clear hg1 hat1 hown hbl hk3 hnew er hrec own3 own4 b13 b14
      go_wp2
      go_roundw
      case rel => exact ⟨k + 1, _, by omega, by go_num, hown1, hrec1, hb1⟩
      case measure => simp [intOf]; omega
    · obtain rfl : k = n := by omega
      go_wp2
      go_ret2
      exact ⟨⟨_, _, rfl, hown, hrec⟩, hbl.out⟩

set_option maxRecDepth 100000 in
set_option maxHeartbeats 1000000 in
theorem one_reloc (w : World) (h3 : 3 ≤ w.heap.size) :
    Calls Tryd.prog 21 #[.int .u32 1, .int .u16 1, .slice (some ⟨w.heap.size, 0, none⟩) 11 11] (w.alloc (.cells #[.int .u8 0, .int .u8 0, .int .u8 0, .int .u8 0, .int .u8 0, .int .u8 0, .int .u8 0, .int .u8 0, .int .u8 0, .int .u8 0, .int .u8 0] 5)) fun e w' => (∃ A c, e = .returned (.tuple #[.slice A 1 c, .bool true])) ∧ Below w.heap.size w w' := by
  have hR : RB (w.alloc (.cells #[.int .u8 0, .int .u8 0, .int .u8 0, .int .u8 0, .int .u8 0, .int .u8 0, .int .u8 0, .int .u8 0, .int .u8 0, .int .u8 0, .int .u8 0] 5)) (some ⟨w.heap.size, 0, none⟩) [0, 0, 0, 0, 0, 0, 0, 0, 0, 0, 0] := RB.of_row (heap_alloc_new w (.cells #[.int .u8 0, .int .u8 0, .int .u8 0, .int .u8 0, .int .u8 0, .int .u8 0, .int .u8 0, .int .u8 0, .int .u8 0, .int .u8 0, .int .u8 0] 5))
  refine (implRelocs_all 1 1 (some ⟨w.heap.size, 0, none⟩) [0, 0, 0, 0, 0, 0, 0, 0, 0, 0, 0] 11 11 (w.alloc (.cells #[.int .u8 0, .int .u8 0, .int .u8 0, .int .u8 0, .int .u8 0, .int .u8 0, .int .u8 0, .int .u8 0, .int .u8 0, .int .u8 0, .int .u8 0] 5)) (by omega) (by omega) (by omega) (Lib.hid (by simp)) (by simp; omega) (Lib.hid rfl) (by omega) hR).mono ?_
  rintro e w' ⟨⟨v, vs, rfl, hown, -⟩, hbl⟩
  obtain ⟨A, c, rfl, -, -, -⟩ := RT.of_owns hown.out
  exact ⟨⟨A, c, rfl⟩, ((Below.refl w.heap.size w).alloc (Nat.le_refl _) _).trans (hbl.mono (by simp))⟩

theorem make11 (w : World) : (Instr.makeSlice 22 (.int .i64 11) (.int .i64 11)).run Tryd.prog w = .ok (.slice (some ⟨w.heap.size, 0, none⟩) 11 11) (w.alloc (.cells #[.int .u8 0, .int .u8 0, .int .u8 0, .int .u8 0, .int .u8 0, .int .u8 0, .int .u8 0, .int .u8 0, .int .u8 0, .int .u8 0, .int .u8 0] 5)) := by kernel_rfl

set_option maxRecDepth 100000 in
set_option maxHeartbeats 1000000 in
theorem lawRelocs_zero (a0 a1 : Nat) (a2 : Option Addr) (len2 cap2 : Nat) (l : List UInt8) (w : World) (hN : Hid (len2 = l.length)) (hr : RB w a2 l) (hc : len2 ≤ cap2) (hb : len2 ≤ 1048576) (hn300 : a1 ≤ 300) (hp31 : a0 ≤ 2147483648) (TE TU : TypeId) (vE vU : Value) (hE : Hid (ErrsAt w TE TU vE vU)) (h3 : 3 ≤ w.heap.size) (hz : a1 = 0) :
    Calls Tryd.prog 7 #[.int .u32 a0, .int .u16 a1, .slice a2 len2 cap2] w fun e w' => e = .returned (.bool true) ∧ Below w.heap.size w w' := by
  subst hz
  have hmk := make11
  have hg1 : ¬ (2147483648 : Int) < (a0 : Int) := by omega
  go_enter Tryd.func7, Tryd.ntmps7
  go_wp2_with fail
  refine (implRelocs_zero a0 a2 l len2 cap2 w h3 hN (by omega) hr).mono ?_
  rintro e w1 ⟨rfl, b1⟩
  go_wp2_with fail
  refine (specRelocs_zero a0 a2 len2 cap2 w1).mono ?_
  rintro e w2 ⟨rfl, b2⟩
  have b12 := Lib.hid (b1.trans (b2.mono b1.size))
  have hz2 := b12.out.size
  clear b1 b2
  go_wp2
  refine wp_loop_rounds 1 ?_
  rw [rounds_succ]
  go_wp2_with fail
  refine (one_reloc _ (by first | omega | (simp; omega))).mono ?_
  rintro e wz ⟨⟨AZ, cz, rfl⟩, bz⟩
  go_wp2
  go_ret
  exact ⟨rfl, b12.out.trans (bz.mono b12.out.size)⟩

set_option maxRecDepth 100000 in
set_option maxHeartbeats 1000000 in
theorem lawRelocs_short (a0 a1 : Nat) (a2 : Option Addr) (len2 cap2 : Nat) (l : List UInt8) (w : World) (hN : Hid (len2 = l.length)) (hr : RB w a2 l) (hc : len2 ≤ cap2) (hb : len2 ≤ 1048576) (hn300 : a1 ≤ 300) (hp31 : a0 ≤ 2147483648) (TE TU : TypeId) (vE vU : Value) (hE : Hid (ErrsAt w TE TU vE vU)) (h3 : 3 ≤ w.heap.size) (hn : 0 < a1) (hpos : Hid (l.length < a0 + 10 * a1)) :
    Calls Tryd.prog 7 #[.int .u32 a0, .int .u16 a1, .slice a2 len2 cap2] w fun e w' => e = .returned (.bool true) ∧ Below w.heap.size w w' := by
  have hmk := make11
  have hg1 : ¬ (2147483648 : Int) < (a0 : Int) := by omega
  have hg2 : ¬ (300 : Int) < (a1 : Int) := by omega
  go_enter Tryd.func7, Tryd.ntmps7
  go_wp2_with fail
  refine (implRelocs_short a0 a1 a2 l len2 cap2 w hn (by omega) (by omega) hpos TE TU vE vU hE h3 hN (by omega) hr).mono ?_
  rintro e w1 ⟨rfl, b1⟩
  go_wp2_with fail
  refine (specRelocs_short a0 a1 a2 l len2 cap2 w1 hn (by omega) (by omega) hN (by omega) hpos).mono ?_
  rintro e w2 ⟨rfl, b2⟩
  have b12 := Lib.hid (b1.trans (b2.mono b1.size))
  have hz2 := b12.out.size
  clear b1 b2
  go_wp2
  refine wp_loop_rounds 1 ?_
  rw [rounds_succ]
  go_wp2_with fail
  refine (one_reloc _ (by first | omega | (simp; omega))).mono ?_
  rintro e wz ⟨⟨AZ, cz, rfl⟩, bz⟩
  go_wp2
  go_ret
  exact ⟨rfl, b12.out.trans (bz.mono b12.out.size)⟩

set_option maxRecDepth 100000 in
set_option maxHeartbeats 1000000 in
theorem lawRelocs_all (a0 a1 : Nat) (a2 : Option Addr) (len2 cap2 : Nat) (l : List UInt8) (w : World) (hN : Hid (len2 = l.length)) (hr : RB w a2 l) (hc : len2 ≤ cap2) (hb : len2 ≤ 1048576) (hn300 : a1 ≤ 300) (hp31 : a0 ≤ 2147483648) (TE TU : TypeId) (vE vU : Value) (hE : Hid (ErrsAt w TE TU vE vU)) (h3 : 3 ≤ w.heap.size) (hn : 0 < a1) (hpos : Hid (a0 + 10 * a1 ≤ l.length)) :
    Calls Tryd.prog 7 #[.int .u32 a0, .int .u16 a1, .slice a2 len2 cap2] w fun e w' => e = .returned (.bool true) ∧ Below w.heap.size w w' := by
  have hmk := make11
  have hg1 : ¬ (2147483648 : Int) < (a0 : Int) := by omega
  have hg2 : ¬ (300 : Int) < (a1 : Int) := by omega
  go_enter Tryd.func7, Tryd.ntmps7
  go_wp2_with fail
  refine (implRelocs_all a0 a1 a2 l len2 cap2 w hn (by omega) (by omega) hpos h3 hN (by omega) hr).mono ?_
  rintro e w1 ⟨⟨v1, vs1, rfl, own1, rec1⟩, b1⟩
  have A1 := Lib.hid (hr.later b1)
  go_wp2_with fail
  refine (specRelocs_all a0 a1 a2 l len2 cap2 w1 hn (by omega) (by omega) hN hc (by omega) A1 hpos).mono ?_
  rintro e w2 ⟨⟨v2, vs2, rfl, own2, rec2⟩, b2⟩
  have own1' := owns_later own1.out b2
  have rec1' := Lib.hid (rec1.out.mono (fun c x h => h.later b2))
  have b12 := Lib.hid (b1.trans (b2.mono b1.size))
  have hz2 := b12.out.size
  obtain ⟨g1, cap1, rfl, hcap1, -, hlt1, hcl1⟩ := owns_cells own1' hn
  obtain ⟨g2, cp2, rfl, hcap2, -, hlt2, hcl2⟩ := owns_cells own2.out hn
  replace hcl1 := Lib.hid hcl1
  replace hcl2 := Lib.hid hcl2
  have hv1 := own1'.1
  have hv2 := own2.out.1
  replace hv1 := Lib.hid hv1
  replace hv2 := Lib.hid hv2
  clear b1 b2 own1 own2 rec1 own1' A1
  go_wp2
  go_loopw [11, 53] (fun _ i wr => ∃ k : Nat, k ≤ a1 ∧ i = .int .i64 k ∧ Hid (Below w2.heap.size w2 wr)) (fun _ i _ => a1 - (intOf i).toNat)
  case atStart => exact ⟨0, Nat.zero_le _, rfl, Lib.hid (Below.refl _ _)⟩
  case round =>
    obtain ⟨k, hk, rfl, hbr⟩ := hrel
    have hzr := hbr.out.size
    by_cases hkn : k < a1
    · obtain ⟨c1, x1, hx1, hl1, hR1, hat1⟩ := rec1'.out.get hkn
      obtain ⟨c2, x2, hx2, hl2, hR2, hat2⟩ := rec2.out.get hkn
      obtain rfl : x1 = x2 := Option.some.inj (hx1.symm.trans hx2)
      obtain ⟨B1, d1, rfl, T1⟩ := hR1
      obtain ⟨B2, d2, rfl, T2⟩ := hR2
      have e1 : wr.cell? ⟨g1, k, none⟩ = some (.slice B1 x1.length d1) := (hbr.out.cell (p := ⟨g1, k, none⟩) hlt1).trans (hcl1.out k _ (by have := hat1 0 _ rfl; simpa using this))
      have e2 : wr.cell? ⟨g2, k, none⟩ = some (.slice B2 x1.length d2) := (hbr.out.cell (p := ⟨g2, k, none⟩) hlt2).trans (hcl2.out k _ (by have := hat2 0 _ rfl; simpa using this))
      have hxl : x1.length = 3 := by
        rw [List.getElem?_map] at hx1
        cases hq : (List.range a1)[k]? with
        | none => simp [hq] at hx1
        | some m => simp [hq] at hx1; rw [← hx1]; rfl
      have hi0 : (0 : Int) ≤ (k : Int) := by omega
      have hi1 : (k : Int) < (a1 : Int) := by omega
      rw [hxl] at e1 e2 T1 T2
      replace hxl := Lib.hid hxl
      have S1 := Lib.hid (T1.later hbr.out).rc
      have S2 := Lib.hid (T2.later hbr.out).rc
      clear hx1 hx2 hat1 hat2 hl1 hl2 T1 T2
      go_wp2_with fail
      go_quiet ((go_at_call 13; exact Calls.quiet_of (same_yes B1 B2 3 d1 d2 x1 _ (by omega) S1.out S2.out)))
      have hbr' := Lib.hid (below_drewN hbr.out nq)
      go_wp2
      go_roundw
      case rel => exact ⟨k + 1, by omega, by go_num, hbr'⟩
      case measure => simp [intOf]; omega
    · obtain rfl : k = a1 := by omega
      go_wp2_with fail
      refine (one_reloc _ (by first | omega | (simp; omega))).mono ?_
      rintro e wz ⟨⟨AZ, cz, rfl⟩, bz⟩
      go_wp2
      go_ret
      exact ⟨rfl, (b12.out.trans (hbr.out.mono hz2)).trans (bz.mono (by omega))⟩

set_option maxHeartbeats 1000000 in
theorem lawRelocs_off (a0 a1 : Nat) (a2 : Option Addr) (len2 cap2 : Nat) (w : World) (h : 2147483647 < len2 ∨ (len2 ≤ 2147483647 ∧ 300 < a1) ∨ (len2 ≤ 2147483647 ∧ a1 ≤ 300 ∧ 2147483648 < a0) ∨ (len2 ≤ 2147483647 ∧ a1 ≤ 300 ∧ a0 ≤ 2147483648 ∧ 1048576 < len2)) :
    Calls Tryd.prog 7 #[.int .u32 a0, .int .u16 a1, .slice a2 len2 cap2] w fun e w' => e = .returned (.bool true) ∧ Below w.heap.size w w' := by
  rcases h with h | ⟨h1, h⟩ | ⟨h1, h2, h⟩ | ⟨h1, h2, h3, h⟩
  · have g : (2147483647 : Int) < (len2 : Int) := by omega
    go_enter Tryd.func7, Tryd.ntmps7
    go_wp2
    go_ret
    exact ⟨rfl, Below.refl _ _⟩
  · have g1 : ¬ (2147483647 : Int) < (len2 : Int) := by omega
    have g : (300 : Int) < (a1 : Int) := by omega
    go_enter Tryd.func7, Tryd.ntmps7
    go_wp2
    go_ret
    exact ⟨rfl, Below.refl _ _⟩
  · have g1 : ¬ (2147483647 : Int) < (len2 : Int) := by omega
    have g2 : ¬ (300 : Int) < (a1 : Int) := by omega
    have g : (2147483648 : Int) < (a0 : Int) := by omega
    go_enter Tryd.func7, Tryd.ntmps7
    go_wp2
    go_ret
    exact ⟨rfl, Below.refl _ _⟩
  · have g1 : ¬ (2147483647 : Int) < (len2 : Int) := by omega
    have g2 : ¬ (300 : Int) < (a1 : Int) := by omega
    have g3 : ¬ (2147483648 : Int) < (a0 : Int) := by omega
    have g : (1048576 : Int) < (len2 : Int) := by omega
    go_enter Tryd.func7, Tryd.ntmps7
    go_wp2
    go_ret
    exact ⟨rfl, Below.refl _ _⟩

theorem u32_wf {a : Int} (h : (Lit.int .u32 a).wf = true) : ∃ n : Nat, a = n ∧ n ≤ 4294967295 := by
  simp [Lit.wf, IntKind.min, IntKind.max, IntKind.signed, IntKind.bits] at h
  exact ⟨a.toNat, by omega, by omega⟩
theorem u16_wf {a : Int} (h : (Lit.int .u16 a).wf = true) : ∃ n : Nat, a = n ∧ n ≤ 65535 := by
  simp [Lit.wf, IntKind.min, IntKind.max, IntKind.signed, IntKind.bits] at h
  exact ⟨a.toNat, by omega, by omega⟩

theorem law_FnPeRelocs (a0 a1 : Int) (a2 : Option Addr) (len2 cap2 : Nat) (z2 : List Int) (w : World) (w0 : (Lit.int .u32 a0).wf = true) (w1 : (Lit.int .u16 a1).wf = true) (w2 : IsRow .u8 w a2 len2 cap2 z2) (TE TU : TypeId) (vE vU : Value) (hErr : ErrsAt w TE TU vE vU) (h3 : 3 ≤ w.heap.size) :
    Calls Tryd.prog 7 #[.int .u32 a0, .int .u16 a1, .slice a2 len2 cap2] w fun e w' => e = .returned (.bool true) ∧ Below w.heap.size w w' := by
  obtain ⟨l, hl, hr, hc, hm⟩ := w2.bytes
  have hN := Lib.hid hl
  have hE := Lib.hid hErr
  obtain ⟨p, rfl, -⟩ := u32_wf w0
  obtain ⟨n, rfl, -⟩ := u16_wf w1
  clear hl w2 hm hErr w0 w1
  by_cases h1 : 2147483647 < len2
  · exact lawRelocs_off p n a2 len2 cap2 w (.inl h1)
  by_cases h2 : 300 < n
  · exact lawRelocs_off p n a2 len2 cap2 w (.inr (.inl ⟨by omega, h2⟩))
  by_cases h4 : 2147483648 < p
  · exact lawRelocs_off p n a2 len2 cap2 w (.inr (.inr (.inl ⟨by omega, by omega, h4⟩)))
  by_cases h5 : 1048576 < len2
  · exact lawRelocs_off p n a2 len2 cap2 w (.inr (.inr (.inr ⟨by omega, by omega, by omega, h5⟩)))
  rcases Nat.eq_zero_or_pos n with hz | hn
  · exact lawRelocs_zero p n a2 len2 cap2 l w hN hr hc (by omega) (by omega) (by omega) TE TU vE vU hE h3 hz
  · by_cases hp : p + 10 * n ≤ l.length
    · exact lawRelocs_all p n a2 len2 cap2 l w hN hr hc (by omega) (by omega) (by omega) TE TU vE vU hE h3 hn (Lib.hid hp)
    · exact lawRelocs_short p n a2 len2 cap2 l w hN hr hc (by omega) (by omega) (by omega) TE TU vE vU hE h3 hn (Lib.hid (by omega))
end Go.Proofs.YthnlimhpnonnmaaDoorRRR
