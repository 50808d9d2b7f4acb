/-
  Symbols as plain data: the contracts of plainOf, PePlain.
-/
import Derived.Test.YtoobkbnhfkfoaaaPePlain2
namespace Go.Proofs.Ytoobkbnhfkfoaaa
set_option linter.unusedVariables false
set_option linter.unusedSimpArgs false
open Go Go.RowKit
attribute [local go_sem ↓] Go.wp_at_zero Go.wp_at_succ

theorem Try.infoPlain : (Try.prog.info? 41).map (fun i => (i.zero, i.size, i.bytes)) = some (some (.agg #[.string ⟨#[]⟩, .int .u32 0, .int .i16 0, .int .u16 0, .int .u8 0]), 5, 32) := by kernel_rfl
theorem Try.infoCoffSym : (Try.prog.info? 49).map (fun i => (i.zero, i.size, i.bytes)) = some (some (.agg #[.int .u8 0, .int .u8 0, .int .u8 0, .int .u8 0, .int .u8 0, .int .u8 0, .int .u8 0, .int .u8 0, .int .u32 0, .int .i16 0, .int .u16 0, .int .u8 0, .int .u8 0]), 13, 20) := by kernel_rfl

set_option maxHeartbeats 1000000 in
theorem plainOf_nil (A : Option Addr) (c : Nat) (w : World) : Calls Try.prog 13 #[.slice A 0 c] w fun e w' => e = .returned (.slice none 0 0) ∧ w = w' := by
  go_enter Try.func13, Try.ntmps13
  go_wp2
  refine wp_loop_rounds 1 ?_
  rw [rounds_succ]
  go_wp2
  go_ret
  exact ⟨rfl, rfl⟩

set_option maxRecDepth 100000 in
set_option maxHeartbeats 2000000 in
theorem plainOf_some (g n cap : Nat) (t : List UInt8) (xs : List CoffL) (w : World) (hn : n ≤ 300) (hglt : g < w.heap.size) (hxs : Hid (xs.length = n))
    (hcl : Hid (∀ k x, xs[k]? = some x → ∃ p, w.cell? ⟨g, k, none⟩ = some (.pointer (some ⟨p, 0, none⟩)) ∧ w.heap[p]? = some (.cells (plainCells t x).toArray 70 (0, 0)))) :
    Calls Try.prog 13 #[.slice (some ⟨g, 0, none⟩) n cap] w fun e w' => (∃ v vs, e = .returned v ∧ Hid (w'.ownsRow w.heap.size 41 5 v n vs) ∧ Hid (Recs (fun _ vs c => vs = plainCells t c) w' 5 n vs xs)) ∧ Below w.heap.size w w' := by
  obtain ⟨i0, hi, hz0, hz1, hz2⟩ := info_parts Try.infoPlain
  go_enter Try.func13, Try.ntmps13
  go_wp2
  go_loopw [3, 8] (fun v i wr => ∃ (k : Nat) (vs : List Value), k ≤ n ∧ i = .int .i64 k ∧ Hid (wr.ownsRow w.heap.size 41 5 v k vs) ∧ Hid (Recs (fun _ vs c => vs = plainCells t c) wr 5 k vs (xs.take k)) ∧ Hid (Below w.heap.size w wr)) (fun _ i _ => n - (intOf i).toNat)
  case atStart => exact ⟨0, [], Nat.zero_le _, rfl, Lib.hid (World.ownsRow_nil _ _ _ _), Lib.hid (Recs.nil _ _ _), Lib.hid (Below.refl _ _)⟩
  case round =>
    obtain ⟨k, vs, hk, rfl, hown, hrec, hbl⟩ := hrel
    have hz := hbl.out.size
    by_cases hkn : k < n
    · have hkx : k < xs.length := by rw [hxs.out]; exact hkn
      obtain ⟨x, hx⟩ : ∃ x, xs[k]? = some x := ⟨_, List.getElem?_eq_getElem hkx⟩
      obtain ⟨p, hp, hrow⟩ := hcl.out k x hx
      have htk : xs.take (k + 1) = xs.take k ++ [x] := by
        rw [List.take_add_one, hx]; rfl
      replace htk := Lib.hid htk
      replace hx := Lib.hid hx
      have hplt : p < w.heap.size := (Array.getElem?_eq_some_iff.1 hrow).1
      have hp' : wr.cell? ⟨g, k, none⟩ = some (.pointer (some ⟨p, 0, none⟩)) := (hbl.out.cell (p := ⟨g, k, none⟩) hglt).trans hp
      have hrow' := (hbl.out.block p hplt).trans hrow
      have hpe : plainCells t x = [.string ⟨(symRes x.name t).1.toArray⟩, .int .u32 x.value, .int .i16 x.sect, .int .u16 x.typ, .int .u8 x.cls] := rfl
      have hpw : p < wr.heap.size := by omega
      have hpneq : some p ≠ u3.ownBlock := fun e => by have := (hown.out.lt p e.symm).1; omega
      replace hpe := Lib.hid hpe
      rw [hpe.out] at hrow'
      obtain ⟨nm, x1, x2, x3, x4, x5⟩ := x
      simp only at hrow' hpe
      generalize (symRes nm t).1 = nmx at *
      have r0 := World.cell?_of_row hrow' 0 _ rfl
      have r1 := World.cell?_of_row hrow' 1 _ rfl
      have r2 := World.cell?_of_row hrow' 2 _ rfl
      have r3 := World.cell?_of_row hrow' 3 _ rfl
      have r4 := World.cell?_of_row hrow' 4 _ rfl
      have hji0 : (0 : Int) ≤ (k : Int) := by omega
      have hji1 : (k : Int) < (n : Int) := by omega
      clear hp hrow hrow' hkx
      go_wp2_with fail
      go_region_held3 (fun w' => w'.cell? ⟨p, 0, none⟩ = some (.string ⟨nmx.toArray⟩) ∧ w'.cell? ⟨p, 1, none⟩ = some (.int .u32 x1) ∧ w'.cell? ⟨p, 2, none⟩ = some (.int .i16 x2) ∧ w'.cell? ⟨p, 3, none⟩ = some (.int .u16 x3) ∧ w'.cell? ⟨p, 4, none⟩ = some (.int .u8 x4))
        (first | go_keep | exact K1.out)
        (first | (refine step_append_any (by rfl) (.tmp 12) (.tmp 34) 28 (by rfl) w.heap.size 41 i0 _ 5 32 Try.underlying28 hi hz0 hz1 hz2 rfl (by omega) u3 k vs (by rfl) ((hown.out.alloc _).drew) (some ⟨wr.heap.size, 0, none⟩) 1 1 [.string ⟨nmx.toArray⟩, .int .u32 x1, .int .i16 x2, .int .u16 x3, .int .u8 x4] (by rfl) (rc_newN rfl rfl) (List.all_eq_true.1 rfl) (by simp only [maxLen]; omega) (by omega) (by simp; omega) ?_; intro v3 w3 own3 g3 at3; have K1 : Hid (w3.cell? ⟨p, 0, none⟩ = some (.string ⟨nmx.toArray⟩) ∧ w3.cell? ⟨p, 1, none⟩ = some (.int .u32 x1) ∧ w3.cell? ⟨p, 2, none⟩ = some (.int .i16 x2) ∧ w3.cell? ⟨p, 3, none⟩ = some (.int .u16 x3) ∧ w3.cell? ⟨p, 4, none⟩ = some (.int .u8 x4)) := Lib.hid ⟨g3.cell (((((Below.refl wr.heap.size wr).alloc (Nat.le_refl _) _).drew).cell (p := ⟨p, 0, none⟩) hpw).trans r0) hpneq, g3.cell (((((Below.refl wr.heap.size wr).alloc (Nat.le_refl _) _).drew).cell (p := ⟨p, 1, none⟩) hpw).trans r1) hpneq, g3.cell (((((Below.refl wr.heap.size wr).alloc (Nat.le_refl _) _).drew).cell (p := ⟨p, 2, none⟩) hpw).trans r2) hpneq, g3.cell (((((Below.refl wr.heap.size wr).alloc (Nat.le_refl _) _).drew).cell (p := ⟨p, 3, none⟩) hpw).trans r3) hpneq, g3.cell (((((Below.refl wr.heap.size wr).alloc (Nat.le_refl _) _).drew).cell (p := ⟨p, 4, none⟩) hpw).trans r4) hpneq⟩))
      have hrec1 := Lib.hid ((hrec.out.mono (w' := w3) (fun c x h => h)).push (c := [.string ⟨nmx.toArray⟩, .int .u32 x1, .int .i16 x2, .int .u16 x3, .int .u8 x4]) (x := ⟨nm, x1, x2, x3, x4, x5⟩) rfl hpe.out.symm)
      rw [← htk.out] at hrec1
      have hb1 := Lib.hid ((((hbl.out.alloc hz (.cells #[.string ⟨nmx.toArray⟩, .int .u32 x1, .int .i16 x2, .int .u16 x3, .int .u8 x4] 41)).drew)).grown g3 (by simp; omega) (fun q hq => (hown.out.lt q hq).1))
      replace own3 := Lib.hid own3
      clear g3 at3 K1 hown hbl hrec r0 r1 r2 r3 r4
      go_wp2
      go_roundw
      case rel => exact ⟨k + 1, _, by omega, by go_num, own3, hrec1, hb1⟩
      case measure => simp [intOf]; omega
    · obtain rfl : k = n := by omega
      have hrec2 := hrec.out
      rw [List.take_of_length_le (by rw [hxs.out]; exact Nat.le_refl _)] at hrec2
      replace hrec2 := Lib.hid hrec2
      go_wp2
      go_ret
      exact ⟨⟨_, _, rfl, hown, hrec2⟩, hbl.out⟩
end Go.Proofs.Ytoobkbnhfkfoaaa
