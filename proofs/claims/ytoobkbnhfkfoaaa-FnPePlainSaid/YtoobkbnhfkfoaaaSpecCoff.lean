/-
  The reference's record of a table of symbols.
-/
import Derived.Test.YtoobkbnhfkfoaaaGen
import Derived.Test.YtoobkbnhfkfoaaaCoffRec
namespace Go.Proofs.Ytoobkbnhfkfoaaa
set_option linter.unusedVariables false
set_option linter.unusedSimpArgs false
open Go Go.RowKit
attribute [local go_sem ↓] Go.wp_at_zero Go.wp_at_succ

theorem wrap_kind (big : Bool) (s : List UInt8) (k m : Nat) (hk : 256 ^ k ≤ m) : num big (s.take k) < m :=
  Nat.lt_of_lt_of_le (num_lt big (s.take k)) (Nat.le_trans (Nat.pow_le_pow_right (by omega) (by simp; omega)) hk)
theorem wrap_u32 (s : List UInt8) : IntKind.u32.wrap ((num false (s.take 4) : Nat) : Int) = ((num false (s.take 4) : Nat) : Int) := by
  have := wrap_kind false s 4 4294967296 (by decide)
  rw [IntKind.wrap_u32]
  omega
theorem wrap_u16 (s : List UInt8) : IntKind.u16.wrap ((num false (s.take 2) : Nat) : Int) = ((num false (s.take 2) : Nat) : Int) := by
  have := wrap_kind false s 2 65536 (by decide)
  rw [IntKind.wrap_u16]
  omega
theorem wrap_u8 (s : List UInt8) : IntKind.u8.wrap ((num false (s.take 1) : Nat) : Int) = ((num false (s.take 1) : Nat) : Int) := by
  have := wrap_kind false s 1 256 (by decide)
  rw [IntKind.wrap_u8]
  omega

set_option maxHeartbeats 400000 in
theorem peCoff_any (w : World) :
    Calls Try.prog 18 #[] w fun e w' => (∃ v, e = .returned (.slice v 6 6) ∧ RC w' v 1 6 (([-8, 4, 2, 2, 1, 1] : List Int).map iv)) ∧ Below w.heap.size w w' := by
  go_enter Try.func18, Try.ntmps18
  go_wp2
  go_ret
  exact ⟨⟨_, rfl, rc_new rfl rfl⟩, (Below.refl _ _).alloc (Nat.le_refl _) _⟩

set_option maxRecDepth 100000 in
set_option maxHeartbeats 1000000 in
theorem specCoff_all (A : Option Addr) (l : List UInt8) (n c : Nat) (hN : Hid (n = l.length)) (hc : n ≤ c) (hb : n ≤ 2147483647) (hZ : 18 ≤ n) (w : World) (hA : RB w A l) :
    Calls Try.prog 9 #[.slice A n c] w fun e w' => e = .returned (.tuple #[.agg (.slice A 8 c :: symTail (coffL l)).toArray, .bool true]) ∧ Below w.heap.size w w' := by
  have hff := fieldsOf_all false [-8, 4, 2, 2, 1, 1] l
  have hwid : widthOf [-8, 4, 2, 2, 1, 1] = 18 := rfl
  have hnum : numsOf false [-8, 4, 2, 2, 1, 1] l = [num false ((l.drop 8).take 4), num false ((l.drop 12).take 2), num false ((l.drop 14).take 2), num false ((l.drop 16).take 1), num false ((l.drop 17).take 1)] := by simp [numsOf, List.drop_drop]
  rw [hwid, if_neg (by have := hN.out; omega), hnum] at hff
  replace hff := Lib.hid hff
  clear hwid hnum
  have g0 := Lib.hid (heap_alloc_new w (.cells #[.slice none 0 0, .int .u32 0, .int .i16 0, .int .u16 0, .int .u8 0, .int .u8 0] 39))
  have b0 : Below w.heap.size w (w.alloc (.cells #[.slice none 0 0, .int .u32 0, .int .i16 0, .int .u16 0, .int .u8 0, .int .u8 0] 39)) := (Below.refl _ _).alloc (Nat.le_refl _) _
  have A0 := Lib.hid (hA.later b0)
  replace b0 := Lib.hid b0
  have ex : (.slice A 8 c :: symTail (coffL l) : List Value) = [.slice A 8 c, .int .u32 (num false ((l.drop 8).take 4) : Nat), .int .i16 (IntKind.i16.wrap (num false ((l.drop 12).take 2) : Nat)), .int .u16 (num false ((l.drop 14).take 2) : Nat), .int .u8 (num false ((l.drop 16).take 1) : Nat), .int .u8 (num false ((l.drop 17).take 1) : Nat)] := rfl
  rw [ex]
  clear ex
  go_enter Try.func9, Try.ntmps9
  go_wp2_with fail
  refine (peCoff_any _).mono ?_
  rintro e w2 ⟨⟨B, rfl, R2⟩, b2⟩
  have A2 := Lib.hid (A0.out.later b2)
  replace g0 := row_later b2 g0
  have hz2 := b2.size
  simp at hz2
  replace b0 := Lib.hid (b0.out.trans (b2.mono (by simp)))
  clear b2 A0
  go_wp2_with fail
  refine (fields_any false A B l [-8, 4, 2, 2, 1, 1] n c 6 6 hN hc hb (Lib.hid (by simp)) (by omega) (Lib.hid (by decide)) w2 A2 (Lib.hid R2)).mono ?_
  rintro e w3 ⟨h | ⟨r, v3, e3, rfl, own3⟩, b3⟩
  · rw [hff.out] at h; cases h.1
  · obtain rfl := Option.some.inj (hff.out.symm.trans e3)
    obtain ⟨C, d3, rfl, hd3, hbC, hC3, hcl⟩ := owns_cellsN own3 (by simp)
    have hne : ¬ C = w.heap.size := by omega
    have hne' : ¬ w.heap.size = C := by omega
    have c0 := hcl 0 _ rfl
    have c1 := hcl 1 _ rfl
    have c2 := hcl 2 _ rfl
    have c3 := hcl 3 _ rfl
    have c4 := hcl 4 _ rfl
    simp only [uv] at c0 c1 c2 c3 c4
    simp only [List.length_cons, List.length_nil, Nat.zero_add, Nat.reduceAdd] at hd3 ⊢
    have W0 := wrap_u32 (l.drop 8)
    have W2 := wrap_u16 (l.drop 14)
    have W3 := wrap_u8 (l.drop 16)
    have W4 := wrap_u8 (l.drop 17)
    have hsl : ∀ W, (Instr.slice 22 (.slice A n c) none (some (.int .i64 8)) none).run Try.prog W = .ok (.slice A 8 c) W := fun W => run_slice_to (P := Try.prog) Try.underlying22 (info_parts Try.infoByte).choose_spec.1 A n c 8 (by omega) W
    have g3 := row_later b3 g0
    replace b0 := Lib.hid (b0.out.trans (b3.mono (by omega)))
    have hz3 := b3.size
    clear hcl own3 e3 R2 A2 g0 b3
    have r0 : w3.cell? ⟨w.heap.size, 0, none⟩ = some (.slice none 0 0) := cell_of_row _ _ 0 _ _ _ g3.out
    have f0 : w3.frozen? ⟨w.heap.size, 0, none⟩ = false := frozen_of_row _ _ 0 _ _ g3.out
    have r1 : w3.cell? ⟨w.heap.size, 1, none⟩ = some (.int .u32 0) := cell_of_row _ _ 1 _ _ _ g3.out
    have f1 : w3.frozen? ⟨w.heap.size, 1, none⟩ = false := frozen_of_row _ _ 1 _ _ g3.out
    have r2 : w3.cell? ⟨w.heap.size, 2, none⟩ = some (.int .i16 0) := cell_of_row _ _ 2 _ _ _ g3.out
    have f2 : w3.frozen? ⟨w.heap.size, 2, none⟩ = false := frozen_of_row _ _ 2 _ _ g3.out
    have r3 : w3.cell? ⟨w.heap.size, 3, none⟩ = some (.int .u16 0) := cell_of_row _ _ 3 _ _ _ g3.out
    have f3 : w3.frozen? ⟨w.heap.size, 3, none⟩ = false := frozen_of_row _ _ 3 _ _ g3.out
    have r4 : w3.cell? ⟨w.heap.size, 4, none⟩ = some (.int .u8 0) := cell_of_row _ _ 4 _ _ _ g3.out
    have f4 : w3.frozen? ⟨w.heap.size, 4, none⟩ = false := frozen_of_row _ _ 4 _ _ g3.out
    have r5 : w3.cell? ⟨w.heap.size, 5, none⟩ = some (.int .u8 0) := cell_of_row _ _ 5 _ _ _ g3.out
    have f5 : w3.frozen? ⟨w.heap.size, 5, none⟩ = false := frozen_of_row _ _ 5 _ _ g3.out
    go_wp2_with fail
    go_region_held3 (fun w' => w'.cell? ⟨C, 0, none⟩ = some (.int .u64 (num false ((l.drop 8).take 4) : Nat)) ∧ w'.cell? ⟨C, 1, none⟩ = some (.int .u64 (num false ((l.drop 12).take 2) : Nat)) ∧ w'.cell? ⟨C, 2, none⟩ = some (.int .u64 (num false ((l.drop 14).take 2) : Nat)) ∧ w'.cell? ⟨C, 3, none⟩ = some (.int .u64 (num false ((l.drop 16).take 1) : Nat)) ∧ w'.cell? ⟨C, 4, none⟩ = some (.int .u64 (num false ((l.drop 17).take 1) : Nat))) (go_keep) (fail)
    have hc := chg6 (.slice A 8 c) (.int .u32 (num false ((l.drop 8).take 4) : Nat)) (.int .i16 (IntKind.i16.wrap (num false ((l.drop 12).take 2) : Nat))) (.int .u16 (num false ((l.drop 14).take 2) : Nat)) (.int .u8 (num false ((l.drop 16).take 1) : Nat)) (.int .u8 (num false ((l.drop 17).take 1) : Nat)) w.heap.size w3
    replace hc := Lib.hid hc
    go_wp2_with fail
    exact bodyPost_ret (v := .tuple #[.agg #[.slice A 8 c, .int .u32 (num false ((l.drop 8).take 4) : Nat), .int .i16 (IntKind.i16.wrap (num false ((l.drop 12).take 2) : Nat)), .int .u16 (num false ((l.drop 14).take 2) : Nat), .int .u8 (num false ((l.drop 16).take 1) : Nat), .int .u8 (num false ((l.drop 17).take 1) : Nat)], .bool true]) (by simp [results, Try.results9, go_sem, r0, r1, r2, r3, r4, r5]) rfl ⟨rfl, b0.out.trans ((hc.out.below (by omega) (fun k hk e => by omega)).drew)⟩

end Go.Proofs.Ytoobkbnhfkfoaaa
