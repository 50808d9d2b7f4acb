/-
  The walk of the law FnMachoReloc.
-/
import Derived.Test.YtmgmmdhaklokjaaDoorRelsLaw
namespace Go.Proofs.YtmgmmdhaklokjaaDoor
set_option linter.unusedVariables false
set_option linter.unusedSimpArgs false
open Go Go.RowKit
attribute [local go_sem ↓] Go.wp_at_zero Go.wp_at_succ

/-- Two words, one behind the other. -/
def twoWords (big : Bool) (a b : Nat) : List UInt8 := mkBytes big 4 a ++ mkBytes big 4 b
theorem twoWords_len (big : Bool) (a b : Nat) : (twoWords big a b).length = 8 := by simp [twoWords, mkBytes_length]
theorem twoWords_a (big : Bool) (a b : Nat) (ha : a < 4294967296) : relA big (twoWords big a b) 0 = a := by
  have h : ((twoWords big a b).drop (8 * 0)).take 4 = mkBytes big 4 a := by
    have := mkBytes_length big 4 a
    simp [twoWords, List.take_append, this, List.take_of_length_le]
  unfold relA
  rw [h, num_mkBytes]
  exact Nat.mod_eq_of_lt ha
theorem twoWords_b (big : Bool) (a b : Nat) (hb : b < 4294967296) : relB big (twoWords big a b) 0 = b := by
  have h : ((twoWords big a b).drop (8 * 0 + 4)).take 4 = mkBytes big 4 b := by
    have h1 := mkBytes_length big 4 a
    have h2 := mkBytes_length big 4 b
    simp [twoWords, List.drop_append, h1, h2, List.take_of_length_le]
  unfold relB
  rw [h, num_mkBytes]
  exact Nat.mod_eq_of_lt hb

set_option maxHeartbeats 1000000 in
theorem bytes4 (big : Bool) (v : Nat) (hv : v < 4294967296) (w : World) :
    Calls Tryd.prog 10 #[.bool big, .int .i64 4, .int .u64 v] w fun e w' => (∃ A c, e = .returned (.slice A 4 c) ∧ Hid (w'.ownsRow w.heap.size 5 1 (.slice A 4 c) 4 ((mkBytes big 4 v).map bv))) ∧ Below w.heap.size w w' :=
  (specBytes_any big 4 v (by omega) (by omega) w).mono fun e w' ⟨⟨u, h1, h2⟩, h3⟩ => by
    obtain ⟨A, c, rfl, -, -, -⟩ := RT.of_owns h2
    exact ⟨⟨A, c, h1, Lib.hid h2⟩, h3⟩

set_option maxRecDepth 100000 in
set_option maxHeartbeats 2000000 in
theorem lawReloc (big : Bool) (a b : Nat) (w : World) (ha : a < 4294967296) (hb : b < 4294967296) (h3 : 3 ≤ w.heap.size) (TE TU : TypeId) (vE vU : Value) (hErr : Hid (ErrsAt w TE TU vE vU)) :
    Calls Tryd.prog 4 #[.bool big, .int .u32 a, .int .u32 b] w fun e w' => e = .returned (.bool true) ∧ Below w.heap.size w w' := by
  have q1 : IntKind.u64.wrap (a : Int) = (a : Int) := IntWalk.u64_in _ (by omega)
  have q2 : IntKind.u64.wrap (b : Int) = (b : Int) := IntWalk.u64_in _ (by omega)
  go_enter Tryd.func4, Tryd.ntmps4
  go_wp2_with fail
  refine (bytes4 big a ha w).mono ?_
  rintro e w1 ⟨⟨A1, c1, rfl, own1⟩, b1⟩
  have hz1 := b1.size
  go_wp2_with fail
  refine (bytes4 big b hb w1).mono ?_
  rintro e w2 ⟨⟨A2, c2, rfl, own2⟩, b2⟩
  have own1' := Lib.hid (owns_later own1.out b2)
  have b12 := Lib.hid (b1.trans (b2.mono hz1))
  have hz2 := b12.out.size
  obtain ⟨-, A2', c2', e2, R2, -, -, -, -⟩ := RB.of_owns own2.out
  simp only [Value.slice.injEq] at e2
  obtain ⟨rfl, -, rfl⟩ := e2
  have hl2 := Lib.hid (mkBytes_length big 4 b)
  clear own1 own2 b1 b2
  go_wp2_with (at_builtin; refine Stop.mk ?_)
  refine Stop.go ?_
  refine wpList_append_bytes Tryd.underlying23 Tryd.infoByte rfl (.tmp 14) (.tmp 18) rfl w.heap.size _ 4 (mkBytes big 4 a) rfl own1'.out A2 4 c2 (mkBytes big 4 b) rfl hl2.out.symm R2 (by omega) hz2 ?_
  intro v3 w3 own3 g3 at3
  have b3 := Lib.hid (b12.out.grown g3 hz2 (fun q hq => (own1'.out.lt q hq).1))
  have hz3 := b3.out.size
  obtain ⟨-, A3, c3, rfl, R3, hc3, -, -, -⟩ := RB.of_owns own3
  have E3 := Lib.hid (hErr.out.chg (Chg.of_below (S := fun k => w.heap.size ≤ k) b3.out (fun k _ h => h)) (by omega) (by omega))
  have htw : mkBytes big 4 a ++ mkBytes big 4 b = twoWords big a b := rfl
  rw [htw] at R3
  have CALL := Lib.hid (implRelocs_any big 1 A3 (twoWords big a b) 8 c3 w3 (by omega) (Lib.hid (twoWords_len big a b).symm) (by omega) R3 (by omega) TE TU vE vU E3)
  have ta := twoWords_a big a b ha
  have tb := twoWords_b big a b hb
  have NR := relocOf_any big a b ha hb
  replace NR := Lib.hid NR
  clear own3 g3 at3 own1' R2 R3 E3 htw b12
  go_wp2_with fail
  refine CALL.out.mono ?_
  rintro e w4 ⟨hp, b4⟩
  have b5 := Lib.hid (b3.out.trans (b4.mono hz3))
  have hz5 := b5.out.size
  clear b4 CALL
  rcases hp with ⟨-, v, rfl, own4⟩ | ⟨h, -, -⟩
  · obtain ⟨G, d4, rfl, hG⟩ := rels_at own4.out
    obtain ⟨g, rfl, -, hlt, hcl⟩ := hG 0 (by omega)
    rw [ta, tb] at hcl
    obtain ⟨x0, x1, x2, x3, p, q, r, hx⟩ := relCells_form big a b
    rw [hx] at hcl NR
    clear hx ta tb own4 hG
    have e0 : w4.cell? ⟨g, 0, none⟩ = some (.int .u32 x0) := hcl 0 _ rfl
    have e1 : w4.cell? ⟨g, 1, none⟩ = some (.int .u32 x1) := hcl 1 _ rfl
    have e2 : w4.cell? ⟨g, 2, none⟩ = some (.int .u8 x2) := hcl 2 _ rfl
    have e3 : w4.cell? ⟨g, 3, none⟩ = some (.int .u8 x3) := hcl 3 _ rfl
    have e4 : w4.cell? ⟨g, 4, none⟩ = some (.bool p) := hcl 4 _ rfl
    have e5 : w4.cell? ⟨g, 5, none⟩ = some (.bool q) := hcl 5 _ rfl
    have e6 : w4.cell? ⟨g, 6, none⟩ = some (.bool r) := hcl 6 _ rfl
    have N1 := Lib.hid (NR.out w4.drew)
    have hcl' := Lib.hid hcl
    clear hcl NR
    go_wp2_with fail
    go_region_held3 (fun w' => w'.cell? ⟨g, 0, none⟩ = some (.int .u32 x0) ∧ w'.cell? ⟨g, 1, none⟩ = some (.int .u32 x1) ∧ w'.cell? ⟨g, 2, none⟩ = some (.int .u8 x2) ∧ w'.cell? ⟨g, 3, none⟩ = some (.int .u8 x3) ∧ w'.cell? ⟨g, 4, none⟩ = some (.bool p) ∧ w'.cell? ⟨g, 5, none⟩ = some (.bool q) ∧ w'.cell? ⟨g, 6, none⟩ = some (.bool r))
      (first | exact ⟨e0, e1, e2, e3, e4, e5, e6⟩ | exact K3.out | exact K4.out | go_keep)
      (first
        | (go_at_call 12; refine N1.out.mono ?_; rintro e w5 ⟨rfl, b6⟩; (try replace b6 := Below.undrew b6); have K3 : Hid (w5.cell? ⟨g, 0, none⟩ = some (.int .u32 x0) ∧ w5.cell? ⟨g, 1, none⟩ = some (.int .u32 x1) ∧ w5.cell? ⟨g, 2, none⟩ = some (.int .u8 x2) ∧ w5.cell? ⟨g, 3, none⟩ = some (.int .u8 x3) ∧ w5.cell? ⟨g, 4, none⟩ = some (.bool p) ∧ w5.cell? ⟨g, 5, none⟩ = some (.bool q) ∧ w5.cell? ⟨g, 6, none⟩ = some (.bool r)) := Lib.hid ⟨(b6.cell (p := ⟨g, 0, none⟩) hlt).trans e0, (b6.cell (p := ⟨g, 1, none⟩) hlt).trans e1, (b6.cell (p := ⟨g, 2, none⟩) hlt).trans e2, (b6.cell (p := ⟨g, 3, none⟩) hlt).trans e3, (b6.cell (p := ⟨g, 4, none⟩) hlt).trans e4, (b6.cell (p := ⟨g, 5, none⟩) hlt).trans e5, (b6.cell (p := ⟨g, 6, none⟩) hlt).trans e6⟩; have hl5 := Nat.lt_of_lt_of_le hlt b6.size; have hz6 := b6.size; have b7 := Lib.hid (b5.out.trans (b6.mono hz5)); clear b6)
        | (go_at_call 11; refine (relocIs_same x0 x1 x2 x3 p q r _).mono ?_; rintro e w6 ⟨rfl, b8⟩; (try replace b8 := Below.undrew b8); have K4 : Hid (w6.cell? ⟨g, 0, none⟩ = some (.int .u32 x0) ∧ w6.cell? ⟨g, 1, none⟩ = some (.int .u32 x1) ∧ w6.cell? ⟨g, 2, none⟩ = some (.int .u8 x2) ∧ w6.cell? ⟨g, 3, none⟩ = some (.int .u8 x3) ∧ w6.cell? ⟨g, 4, none⟩ = some (.bool p) ∧ w6.cell? ⟨g, 5, none⟩ = some (.bool q) ∧ w6.cell? ⟨g, 6, none⟩ = some (.bool r)) := Lib.hid ⟨(b8.cell (p := ⟨g, 0, none⟩) hl5).trans K3.out.1, (b8.cell (p := ⟨g, 1, none⟩) hl5).trans K3.out.2.1, (b8.cell (p := ⟨g, 2, none⟩) hl5).trans K3.out.2.2.1, (b8.cell (p := ⟨g, 3, none⟩) hl5).trans K3.out.2.2.2.1, (b8.cell (p := ⟨g, 4, none⟩) hl5).trans K3.out.2.2.2.2.1, (b8.cell (p := ⟨g, 5, none⟩) hl5).trans K3.out.2.2.2.2.2.1, (b8.cell (p := ⟨g, 6, none⟩) hl5).trans K3.out.2.2.2.2.2.2⟩; replace b8 := Lib.hid b8))
    have b9 := b7.out.trans (b8.out.mono b7.out.size)
    replace b9 := Lib.hid b9
    clear K3 K4 hcl'
    go_wp2
    go_ret
    exact ⟨rfl, b9.out⟩
  · omega

theorem law_FnMachoReloc (a0 : Bool) (a1 a2 : Int) (w : World) (w1 : (Lit.int .u32 a1).wf = true) (w2 : (Lit.int .u32 a2).wf = true) (TE TU : TypeId) (vE vU : Value) (hErr : ErrsAt w TE TU vE vU) (h3 : 3 ≤ w.heap.size) :
    Calls Tryd.prog 4 #[.bool a0, .int .u32 a1, .int .u32 a2] w fun e w' => e = .returned (.bool true) ∧ Below w.heap.size w w' := by
  obtain ⟨a, rfl, ha⟩ := u32_wf w1
  obtain ⟨b, rfl, hb⟩ := u32_wf w2
  exact lawReloc a0 a b w (by omega) (by omega) h3 TE TU vE vU (Lib.hid hErr)
end Go.Proofs.YtmgmmdhaklokjaaDoor
