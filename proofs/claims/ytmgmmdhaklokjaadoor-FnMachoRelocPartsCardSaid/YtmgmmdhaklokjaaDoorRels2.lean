/-
  Relocations as plain data: the contracts of RelocOf, relocIs, Relocs, relocsOf.
-/
import Derived.Test.YtmgmmdhaklokjaaDoorPush0
namespace Go.Proofs.YtmgmmdhaklokjaaDoor
set_option linter.unusedVariables false
set_option linter.unusedSimpArgs false
open Go Go.RowKit
attribute [local go_sem ↓] Go.wp_at_zero Go.wp_at_succ

theorem relCells_form (big : Bool) (a b : Nat) : ∃ (x0 x1 x2 x3 : Int) (p q r : Bool), relCells big a b = [.int .u32 x0, .int .u32 x1, .int .u8 x2, .int .u8 x3, .bool p, .bool q, .bool r] := by
  unfold relCells
  split
  · exact ⟨_, _, _, _, _, _, _, rfl⟩
  · split <;> exact ⟨_, _, _, _, _, _, _, rfl⟩

theorem Tryd.infoSRel : (Tryd.prog.info? 43).map (fun i => (i.zero, i.size, i.bytes)) = some (some (.agg #[.int .u32 0, .int .u32 0, .int .u8 0, .int .u8 0, .bool false, .bool false, .bool false]), 7, 16) := by kernel_rfl
theorem Tryd.infoIRel : (Tryd.prog.info? 42).map (fun i => (i.zero, i.size, i.bytes)) = some (some (.agg #[.int .u32 0, .int .u32 0, .int .u8 0, .int .u8 0, .bool false, .bool false, .bool false]), 7, 16) := by kernel_rfl

theorem one_bit (x k : Nat) (hx : x < 4294967296) : bits .and .u32 ((x : Int) / ((2 ^ k : Nat) : Int)) 1 = (((x.testBit k).toNat : Nat) : Int) := by
  have h := and_mask (x / 2 ^ k) 1 (Nat.lt_of_le_of_lt (Nat.div_le_self _ _) hx) (by omega)
  have e : (x / 2 ^ k) % 2 ^ 1 = (x.testBit k).toNat := by
    rw [Nat.testBit_eq_decide_div_mod_eq]
    rcases Nat.mod_two_eq_zero_or_one (x / 2 ^ k) with h | h <;> simp [h]
  rw [e] at h
  exact h
theorem one_beq (t : Bool) : (((t.toNat : Nat) : Int) == 1) = t := by cases t <;> rfl

set_option maxRecDepth 100000 in
set_option maxHeartbeats 1000000 in
theorem relocOf_any (big : Bool) (a b : Nat) (ha : a < 4294967296) (hb : b < 4294967296) (w : World) :
    Calls Tryd.prog 12 #[.bool big, .int .u32 a, .int .u32 b] w fun e w' => e = .returned (.agg (relCells big a b).toArray) ∧ Below w.heap.size w w' := by
  by_cases hsc : 2147483648 ≤ a
  · have m31 : (a : Int) / 2147483648 = 1 := by omega
    have m24 : bits .and .u32 (a : Int) 16777215 = ((a % 16777216 : Nat) : Int) := and_mask a 24 ha (by omega)
    have n24 : bits .and .u32 ((a : Int) / 16777216) 15 = ((a / 16777216 % 16 : Nat) : Int) := and_mask (a / 16777216) 4 (by omega) (by omega)
    have n28 : bits .and .u32 ((a : Int) / 268435456) 3 = ((a / 268435456 % 4 : Nat) : Int) := and_mask (a / 268435456) 2 (by omega) (by omega)
    have m30 : bits .and .u32 ((a : Int) / 1073741824) 1 = (((a.testBit 30).toNat : Nat) : Int) := one_bit a 30 ha
    have hcells : relCells big a b = [.int .u32 ((a % 16777216 : Nat) : Int), .int .u32 (b : Int), .int .u8 ((a / 16777216 % 16 : Nat) : Int), .int .u8 ((a / 268435456 % 4 : Nat) : Int), .bool ((((a.testBit 30).toNat : Nat) : Int) == 1), .bool false, .bool true] := by
      rw [one_beq]; unfold relCells; rw [if_pos hsc]
    rw [hcells]
    clear hcells
    go_enter Tryd.func12, Tryd.ntmps12
    go_wp2
    exact bodyPost_ret (v := .agg #[.int .u32 ((a : Int) % 16777216), .int .u32 (b : Int), .int .u8 ((a : Int) / 16777216 % 16), .int .u8 ((a : Int) / 268435456 % 4), .bool ((((a.testBit 30).toNat : Nat) : Int) == 1), .bool false, .bool true]) (by simp [results, Tryd.results12, go_sem]) rfl ⟨rfl, (Below.refl _ _).alloc (Nat.le_refl _) _⟩
  · have m31 : ((a : Int) / 2147483648 == 1) = false := by rw [beq_eq_false_iff_ne]; omega
    cases big with
    | true =>
      have n7 : bits .and .u32 ((b : Int) / 128) 1 = (((b.testBit 7).toNat : Nat) : Int) := one_bit b 7 hb
      have n4 : bits .and .u32 ((b : Int) / 16) 1 = (((b.testBit 4).toNat : Nat) : Int) := one_bit b 4 hb
      have n0 : bits .and .u32 (b : Int) 15 = ((b % 16 : Nat) : Int) := and_mask b 4 hb (by omega)
      have n5 : bits .and .u32 ((b : Int) / 32) 3 = ((b / 32 % 4 : Nat) : Int) := and_mask (b / 32) 2 (by omega) (by omega)
      have hcells : relCells true a b = [.int .u32 (a : Int), .int .u32 ((b / 256 : Nat) : Int), .int .u8 ((b % 16 : Nat) : Int), .int .u8 ((b / 32 % 4 : Nat) : Int), .bool ((((b.testBit 7).toNat : Nat) : Int) == 1), .bool ((((b.testBit 4).toNat : Nat) : Int) == 1), .bool false] := by
        rw [one_beq, one_beq]; unfold relCells; rw [if_neg hsc]; rfl
      rw [hcells]
      clear hcells
      go_enter Tryd.func12, Tryd.ntmps12
      go_wp2
      exact bodyPost_ret (v := .agg #[.int .u32 (a : Int), .int .u32 ((b : Int) / 256), .int .u8 ((b : Int) % 16), .int .u8 ((b : Int) / 32 % 4), .bool ((((b.testBit 7).toNat : Nat) : Int) == 1), .bool ((((b.testBit 4).toNat : Nat) : Int) == 1), .bool false]) (by simp [results, Tryd.results12, go_sem]) rfl ⟨rfl, (Below.refl _ _).alloc (Nat.le_refl _) _⟩
    | false =>
      have n24 : bits .and .u32 ((b : Int) / 16777216) 1 = (((b.testBit 24).toNat : Nat) : Int) := one_bit b 24 hb
      have n27 : bits .and .u32 ((b : Int) / 134217728) 1 = (((b.testBit 27).toNat : Nat) : Int) := one_bit b 27 hb
      have n0 : bits .and .u32 (b : Int) 16777215 = ((b % 16777216 : Nat) : Int) := and_mask b 24 hb (by omega)
      have n25 : bits .and .u32 ((b : Int) / 33554432) 3 = ((b / 33554432 % 4 : Nat) : Int) := and_mask (b / 33554432) 2 (by omega) (by omega)
      have n28 : b / 268435456 % 16 = b / 268435456 := by omega
      have hcells : relCells false a b = [.int .u32 (a : Int), .int .u32 ((b % 16777216 : Nat) : Int), .int .u8 ((b / 268435456 : Nat) : Int), .int .u8 ((b / 33554432 % 4 : Nat) : Int), .bool ((((b.testBit 24).toNat : Nat) : Int) == 1), .bool ((((b.testBit 27).toNat : Nat) : Int) == 1), .bool false] := by
        rw [one_beq, one_beq]; unfold relCells; rw [if_neg hsc]; simp only [Bool.false_eq_true, if_false]; rw [n28]
      rw [hcells]
      clear hcells n28
      go_enter Tryd.func12, Tryd.ntmps12
      go_wp2
      exact bodyPost_ret (v := .agg #[.int .u32 (a : Int), .int .u32 ((b : Int) % 16777216), .int .u8 ((b : Int) / 268435456), .int .u8 ((b : Int) / 33554432 % 4), .bool ((((b.testBit 24).toNat : Nat) : Int) == 1), .bool ((((b.testBit 27).toNat : Nat) : Int) == 1), .bool false]) (by simp [results, Tryd.results12, go_sem]) rfl ⟨rfl, (Below.refl _ _).alloc (Nat.le_refl _) _⟩

set_option maxHeartbeats 1000000 in
theorem relocIs_same (x0 x1 x2 x3 : Int) (p q r : Bool) (w : World) :
    Calls Tryd.prog 11 #[.agg #[.int .u32 x0, .int .u32 x1, .int .u8 x2, .int .u8 x3, .bool p, .bool q, .bool r], .agg #[.int .u32 x0, .int .u32 x1, .int .u8 x2, .int .u8 x3, .bool p, .bool q, .bool r]] w fun e w' => e = .returned (.bool true) ∧ Below w.heap.size w w' := by
  go_enter Tryd.func11, Tryd.ntmps11
  go_wp2
  go_ret
  exact ⟨by first | rfl | simp, ((Below.refl _ _).alloc (Nat.le_refl _) _).alloc (by simp) _⟩

set_option maxRecDepth 100000 in
set_option maxHeartbeats 2000000 in
theorem relocsOf_any (A : Option Addr) (n cap : Nat) (big : Bool) (s : List UInt8) (w : World) (hn : n ≤ 131072)
    (hcl : Hid (∀ k, k < n → ∃ g, A = some ⟨g, 0, none⟩ ∧ g < w.heap.size ∧ ∀ i u, (relCells big (relA big s k) (relB big s k))[i]? = some u → w.cell? ⟨g, k * 7 + i, none⟩ = some u)) :
    Calls Tryd.prog 24 #[.slice A n cap] w fun e w' => (∃ v, e = .returned v ∧ Hid (w'.ownsRow w.heap.size 42 7 v n (relRow big s n))) ∧ Below w.heap.size w w' := by
  obtain ⟨i0, hi, hz0, hz1, hz2⟩ := info_parts Tryd.infoIRel
  go_enter Tryd.func24, Tryd.ntmps24
  go_wp2
  go_loopw [3, 8] (fun v i wr => ∃ (k : Nat), k ≤ n ∧ i = .int .i64 k ∧ Hid (wr.ownsRow w.heap.size 42 7 v k (relRow big s k)) ∧ Hid (Below w.heap.size w wr)) (fun _ i _ => n - (intOf i).toNat)
  case atStart => exact ⟨0, Nat.zero_le _, rfl, Lib.hid (World.ownsRow_nil _ _ _ _), Lib.hid (Below.refl _ _)⟩
  case round =>
    obtain ⟨k, hk, rfl, hown, hbl⟩ := hrel
    have hz := hbl.out.size
    by_cases hkn : k < n
    · obtain ⟨g, rfl, hglt, hc⟩ := hcl.out k hkn
      have hrs := Lib.hid (relRow_succ big s k)
      obtain ⟨x0, x1, x2, x3, p, q, r, hx⟩ := relCells_form big (relA big s k) (relB big s k)
      rw [hx] at hc hrs
      clear hx
      have hc' := fun (i : Nat) (u : Value) (h : ([.int .u32 x0, .int .u32 x1, .int .u8 x2, .int .u8 x3, .bool p, .bool q, .bool r] : List Value)[i]? = some u) => (hbl.out.cell (p := ⟨g, k * 7 + i, none⟩) hglt).trans (hc i u h)
      have d0 : wr.cell? ⟨g, k * 7, none⟩ = some (.int .u32 x0) := hc' 0 _ rfl
      have d1 : wr.cell? ⟨g, k * 7 + 1, none⟩ = some (.int .u32 x1) := hc' 1 _ rfl
      have d2 : wr.cell? ⟨g, k * 7 + 2, none⟩ = some (.int .u8 x2) := hc' 2 _ rfl
      have d3 : wr.cell? ⟨g, k * 7 + 3, none⟩ = some (.int .u8 x3) := hc' 3 _ rfl
      have d4 : wr.cell? ⟨g, k * 7 + 4, none⟩ = some (.bool p) := hc' 4 _ rfl
      have d5 : wr.cell? ⟨g, k * 7 + 5, none⟩ = some (.bool q) := hc' 5 _ rfl
      have d6 : wr.cell? ⟨g, k * 7 + 6, none⟩ = some (.bool r) := hc' 6 _ rfl
      have hji0 : (0 : Int) ≤ (k : Int) := by omega
      have hji1 : (k : Int) < (n : Int) := by omega
      have hge : Hid (∀ q, u3.ownBlock = some q → w.heap.size ≤ q) := Lib.hid (fun q hq => (hown.out.lt q hq).1)
      clear hc hc'
      have own1 := Lib.hid (hown.out.alloc (.cells #[.int .u32 x0, .int .u32 x1, .int .u8 x2, .int .u8 x3, .bool p, .bool q, .bool r] 107))
      have b1 := Lib.hid (hbl.out.alloc hz (.cells #[.int .u32 x0, .int .u32 x1, .int .u8 x2, .int .u8 x3, .bool p, .bool q, .bool r] 107))
      have own2 := Lib.hid (own1.out.alloc (.cells #[.int .u32 x0, .int .u32 x1, .int .u8 x2, .int .u8 x3, .bool p, .bool q, .bool r] 42))
      go_wp2_with (at_builtin; refine Stop.mk ?_)
      refine Stop.go ?_
      refine wpList_append_any rfl (.tmp 12) (.tmp 28) 36 rfl w.heap.size 42 i0 _ 7 16 Tryd.underlying36 hi hz0 hz1 hz2 rfl (by omega) _ k _ rfl own2.out (some ⟨wr.heap.size + 1, 0, none⟩) 1 1 [.int .u32 x0, .int .u32 x1, .int .u8 x2, .int .u8 x3, .bool p, .bool q, .bool r] rfl (rc_newN (by simp) rfl) (List.all_eq_true.1 rfl) (by simp only [maxLen]; omega) (by omega) (by simp; omega) ?_
      intro v3 w3 own3 g3 at3
      have hb3 := Lib.hid ((b1.out.alloc (by simp; omega) (.cells #[.int .u32 x0, .int .u32 x1, .int .u8 x2, .int .u8 x3, .bool p, .bool q, .bool r] 42)).grown g3 (by simp; omega) hge.out)
      rw [← hrs.out] at own3
      replace own3 := Lib.hid own3
      clear g3 at3 hown hbl own1 own2 b1 d0 d1 d2 d3 d4 d5 d6
      go_wp2
      go_roundw
      case rel => exact ⟨k + 1, by omega, by go_num, own3, hb3⟩
      case measure => simp [intOf]; omega
    · obtain rfl : k = n := by omega
      go_wp2
      go_ret
      exact ⟨⟨_, rfl, hown⟩, hbl.out⟩

set_option maxRecDepth 100000 in
set_option maxHeartbeats 2000000 in
theorem specRelocs_any (big : Bool) (n : Nat) (A : Option Addr) (l : List UInt8) (len c : Nat) (w : World) (hn : n ≤ 131072) (hN : Hid (len = l.length)) (hc : len ≤ c) (hb : len ≤ 2147483647) (hA : Hid (RB w A l)) :
    Calls Tryd.prog 13 #[.bool big, .int .i64 n, .slice A len c] w fun e w' => ((8 * n ≤ len ∧ ∃ v, e = .returned (.tuple #[v, .bool true]) ∧ Hid (w'.ownsRow w.heap.size 43 7 v n (relRow big l n))) ∨ (len < 8 * n ∧ e = .returned (.tuple #[.slice none 0 0, .bool false]))) ∧ Below w.heap.size w w' := by
  obtain ⟨i0, hi, hz0, hz1, hz2⟩ := info_parts Tryd.infoSRel
  have hsl : ∀ (j : Nat), j ≤ len → ∀ W, (Instr.slice 23 (.slice A len c) (some (.int .i64 (j : Int))) none none).run Tryd.prog W = .ok (.slice (slA A c j) (len - j) (c - j)) W := fun j hj W => run_slice_from (P := Tryd.prog) Tryd.underlying23 (info_parts Tryd.infoByte).choose_spec.1 (info_parts Tryd.infoByte).choose_spec.2.2.1 A len c j .i64 hj W
  replace hsl := Lib.hid hsl
  go_enter Tryd.func13, Tryd.ntmps13
  go_wp2
  go_loopw [8, 12] (fun v i wr => ∃ (k : Nat), k ≤ n ∧ 8 * k ≤ len ∧ i = .int .i64 k ∧ Hid (wr.ownsRow w.heap.size 43 7 v k (relRow big l k)) ∧ Hid (Below w.heap.size w wr)) (fun _ i _ => n - (intOf i).toNat)
  case atStart => exact ⟨0, Nat.zero_le _, Nat.zero_le _, rfl, Lib.hid (World.ownsRow_made w #[] 0 (Nat.le_refl _) (by simp [maxLen]) (by simp)), Lib.hid ((Below.refl _ _).alloc (Nat.le_refl _) _)⟩
  case round =>
    obtain ⟨k, hk, hkl, rfl, hown, hbl⟩ := hrel
    have hz := hbl.out.size
    by_cases hkn : k < n
    · have hki : (k : Int) < (n : Int) := by omega
      have q1 : IntKind.i64.wrap (8 * (k : Int)) = 8 * (k : Int) := IntWalk.i64_in _ (by omega)
      have q2 : IntKind.i64.wrap (8 * (k : Int) + 8) = 8 * (k : Int) + 8 := IntWalk.i64_in _ (by omega)
      have q3 : IntKind.i64.wrap (8 * (k : Int) + 4) = 8 * (k : Int) + 4 := IntWalk.i64_in _ (by omega)
      by_cases hsh : len < 8 * k + 8
      · have h1 : (len : Int) < 8 * (k : Int) + 8 := by omega
        have h2 : len < 8 * n := by omega
        clear hown
        go_wp2
        go_ret2
        exact ⟨.inr ⟨h2, rfl⟩, hbl.out⟩
      · have h1 : ¬ (len : Int) < 8 * (k : Int) + 8 := by omega
        have h3 : (0 : Int) ≤ 8 * (k : Int) := by omega
        have h4 : 8 * (k : Int) ≤ (len : Int) := by omega
        have h5 : (0 : Int) ≤ 8 * (k : Int) + 4 := by omega
        have h6 : 8 * (k : Int) + 4 ≤ (len : Int) := by omega
        have s1 : ∀ W, (Instr.slice 23 (.slice A len c) (some (.int .i64 (8 * (k : Int)))) none none).run Tryd.prog W = .ok (.slice (slA A c (8 * k)) (len - 8 * k) (c - 8 * k)) W := hsl.out (8 * k) (by omega)
        have s2 : ∀ W, (Instr.slice 23 (.slice A len c) (some (.int .i64 (8 * (k : Int) + 4))) none none).run Tryd.prog W = .ok (.slice (slA A c (8 * k + 4)) (len - (8 * k + 4)) (c - (8 * k + 4))) W := hsl.out (8 * k + 4) (by omega)
        have Ar := hA.out.later hbl.out
        have N1 : Hid (Calls Tryd.prog 25 #[.bool big, .int .i64 4, .slice (slA A c (8 * k)) (len - 8 * k) (c - 8 * k)] wr.drew fun e w' => e = .returned (.int .u64 (relA big l k : Int)) ∧ wr.drew = w') := Lib.hid (specNumber_any big (slA A c (8 * k)) (l.drop (8 * k)) (len - 8 * k) (c - 8 * k) 4 (by rw [List.length_drop, ← hN.out]) (by omega) (by omega) wr.drew (Ar.drop (c := c) (by rw [← hN.out]; exact hc) (8 * k)).drew)
        have N2 : Hid (Calls Tryd.prog 25 #[.bool big, .int .i64 4, .slice (slA A c (8 * k + 4)) (len - (8 * k + 4)) (c - (8 * k + 4))] wr.drew fun e w' => e = .returned (.int .u64 (relB big l k : Int)) ∧ wr.drew = w') := Lib.hid (specNumber_any big (slA A c (8 * k + 4)) (l.drop (8 * k + 4)) (len - (8 * k + 4)) (c - (8 * k + 4)) 4 (by rw [List.length_drop, ← hN.out]) (by omega) (by omega) wr.drew (Ar.drop (c := c) (by rw [← hN.out]; exact hc) (8 * k + 4)).drew)
        have hal := relA_lt big l k
        have hbl' := relB_lt big l k
        have NR := Lib.hid (relocOf_any big (relA big l k) (relB big l k) hal hbl' wr.drew)
        have hrs := Lib.hid (relRow_succ big l k)
        obtain ⟨x0, x1, x2, x3, p, q, r, hx⟩ := relCells_form big (relA big l k) (relB big l k)
        rw [hx] at NR hrs
        clear hx Ar
        generalize relA big l k = a at *
        generalize relB big l k = b at *
        have w1 : IntKind.u32.wrap (a : Int) = (a : Int) := IntWalk.u32_in _ (by omega)
        have w2 : IntKind.u32.wrap (b : Int) = (b : Int) := IntWalk.u32_in _ (by omega)
        have hge : Hid (∀ q, u8.ownBlock = some q → w.heap.size ≤ q) := Lib.hid (fun q hq => (hown.out.lt q hq).1)
        go_wp2_with fail
        go_region_held3 (fun _ => True) (trivial) (first
          | (go_at_call 25; (with_reducible refine N1.out.mono ?_); rintro e w' ⟨rfl, rfl⟩)
          | (go_at_call 25; (with_reducible refine N2.out.mono ?_); rintro e w' ⟨rfl, rfl⟩)
          | (go_at_call 12; (with_reducible refine NR.out.mono ?_); rintro e w3 ⟨rfl, b3⟩; have b3' := Lib.hid (Below.undrew b3); clear b3; have own1 := Lib.hid (owns_later hown.out b3'.out); have hz3 := b3'.out.size; have hzw := Nat.le_trans hz hz3; have b1 := Lib.hid (hbl.out.trans (b3'.out.mono hz)))
          | (refine step_append_any (by rfl) (.tmp 21) (.tmp 39) 48 (by rfl) w.heap.size 43 i0 _ 7 16 Tryd.underlying48 hi hz0 hz1 hz2 rfl (by omega) u8 k _ (by rfl) (own1.out.alloc _) (some ⟨w3.heap.size, 0, none⟩) 1 1 [.int .u32 x0, .int .u32 x1, .int .u8 x2, .int .u8 x3, .bool p, .bool q, .bool r] (by rfl) (rc_newN rfl rfl) (List.all_eq_true.1 rfl) (by simp only [maxLen]; omega) (by omega) (by simp; omega) ?_; intro v4 w4 own4 g4 at4))
        have hb4 := Lib.hid ((b1.out.alloc (by omega) (.cells #[.int .u32 x0, .int .u32 x1, .int .u8 x2, .int .u8 x3, .bool p, .bool q, .bool r] 43)).grown g4 (by simp; omega) hge.out)
        rw [← hrs.out] at own4
        replace own4 := Lib.hid own4
        clear g4 at4 hown hbl own1 b1 b3'
        go_wp2
        go_roundw
        case rel => exact ⟨k + 1, by omega, by omega, by go_num, own4, hb4⟩
        case measure => simp [intOf]; omega
    · obtain rfl : k = n := by omega
      go_wp2
      go_ret2
      exact ⟨.inl ⟨hkl, _, rfl, hown⟩, hbl.out⟩

theorem relRow_at (big : Bool) (s : List UInt8) (n k : Nat) (hk : k < n) (i : Nat) (u : Value) (hu : (relCells big (relA big s k) (relB big s k))[i]? = some u) : (relRow big s n)[k * 7 + i]? = some u :=
  flatten_at _ 7 (fun c hc => by
    obtain ⟨q, _, rfl⟩ := List.mem_map.1 hc
    exact relCells_len _ _ _) k _ (by simp [hk]) i u hu
/-- Where an owned row of relocations lies. -/
theorem rels_at {w : World} {base : Nat} {e : TypeId} {v : Value} {n : Nat} {big : Bool} {s : List UInt8} (h : w.ownsRow base e 7 v n (relRow big s n)) :
    ∃ A c, v = .slice A n c ∧ ∀ k, k < n → ∃ g, A = some ⟨g, 0, none⟩ ∧ base ≤ g ∧ g < w.heap.size ∧ ∀ i u, (relCells big (relA big s k) (relB big s k))[i]? = some u → w.cell? ⟨g, k * 7 + i, none⟩ = some u := by
  obtain ⟨A, c, rfl, -, -, -⟩ := RT.of_owns h
  refine ⟨A, c, rfl, fun k hk => ?_⟩
  obtain ⟨g, cap, hv, -, hb, hlt, hcl⟩ := owns_cellsN h (by omega)
  simp only [Value.slice.injEq] at hv
  obtain ⟨rfl, -, rfl⟩ := hv
  exact ⟨g, rfl, hb, hlt, fun i u hu => hcl _ u (relRow_at big s n k hk i u hu)⟩
end Go.Proofs.YtmgmmdhaklokjaaDoor
