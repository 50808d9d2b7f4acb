/-
  The records in bytes, 18 each: the contract of coffsOf.
-/
import Derived.Test.YtoobkbnhfkfoaaaSpecCoff
namespace Go.Proofs.Ytoobkbnhfkfoaaa
set_option linter.unusedVariables false
set_option linter.unusedSimpArgs false
open Go Go.RowKit
attribute [local go_sem ↓] Go.wp_at_zero Go.wp_at_succ

/-- The records in bytes. -/
def coffsL (l : List UInt8) (n : Nat) : List CoffL := (List.range n).map fun k => coffL (l.drop (18 * k))
theorem coffsL_succ (l : List UInt8) (n : Nat) : coffsL l (n + 1) = coffsL l n ++ [coffL (l.drop (18 * n))] := by simp [coffsL, List.range_succ]
theorem coffsL_len (l : List UInt8) (n : Nat) : (coffsL l n).length = n := by simp [coffsL]
theorem Try.infoCoff : (Try.prog.info? 45).map (fun i => (i.zero, i.size, i.bytes)) = some (some (.agg #[.slice none 0 0, .int .u32 0, .int .i16 0, .int .u16 0, .int .u8 0, .int .u8 0]), 6, 40) := by kernel_rfl
theorem Try.infoSCoff : (Try.prog.info? 39).map (fun i => (i.zero, i.size, i.bytes)) = some (some (.agg #[.slice none 0 0, .int .u32 0, .int .i16 0, .int .u16 0, .int .u8 0, .int .u8 0]), 6, 40) := by kernel_rfl

set_option maxRecDepth 100000 in
set_option maxHeartbeats 2000000 in
theorem coffsOf_any (A : Option Addr) (l : List UInt8) (n c N : Nat) (w : World) (hN : Hid (n = l.length)) (hc : n ≤ c) (hb : n ≤ 5400) (hNN : Hid (N = n / 18)) (hA : Hid (RB w A l)) :
    Calls Try.prog 4 #[.slice A n c] w fun e w' => (∃ v1 vs1 v2 vs2, e = .returned (.tuple #[v1, v2]) ∧ Hid (w'.ownsRow w.heap.size 45 6 v1 N vs1) ∧ Hid (Recs IsCoffK w' 6 N vs1 (coffsL l N)) ∧
      Hid (w'.ownsRow w.heap.size 39 6 v2 N vs2) ∧ Hid (Recs (fun _ => IsCoffIn w) w' 6 N vs2 (coffsL l N))) ∧ Below w.heap.size w w' := by
  obtain ⟨i0, hi, hz0, hz1, hz2⟩ := info_parts Try.infoCoff
  obtain ⟨i1, hi1, hy0, hy1, hy2⟩ := info_parts Try.infoSCoff
  have H0 : Hid (((w.alloc (.cells #[] 45)).alloc (.cells #[] 39)).ownsRow w.heap.size 39 6 (.slice (some ⟨w.heap.size + 1, 0, none⟩) 0 0) 0 []) := Lib.hid (by
    have h := World.ownsRow_made (base := w.heap.size) (e := 39) (size := 6) (w.alloc (.cells #[] 45)) #[] 0 (by rw [World.size_alloc]; omega) (by simp [maxLen]) (by rfl)
    rw [World.size_alloc] at h
    exact h)
  go_enter Try.func4, Try.ntmps4
  go_wp2
  go_loopw [0, 4, 5] (fun b x y wr => ∃ (k : Nat) (A' : Option Addr) (n' c' : Nat) (vs1 vs2 : List Value), b = .slice A' n' c' ∧ n' ≤ c' ∧ Hid (n' + 18 * k = n) ∧ Hid (RB w A' (l.drop (18 * k))) ∧
    Hid (wr.ownsRow w.heap.size 45 6 x k vs1) ∧ Hid (Recs IsCoffK wr 6 k vs1 (coffsL l k)) ∧ Hid (wr.ownsRow w.heap.size 39 6 y k vs2) ∧ Hid (Recs (fun _ => IsCoffIn w) wr 6 k vs2 (coffsL l k)) ∧ Hid (Below w.heap.size w wr)) (fun b _ _ _ => match b with | .slice _ n _ => n | _ => 0)
  case atStart => exact ⟨0, A, n, c, [], [], rfl, hc, Lib.hid (by omega), hA, Lib.hid ((World.ownsRow_made w #[] 0 (Nat.le_refl _) (by simp [maxLen]) (by simp)).alloc _), Lib.hid (Recs.nil _ _ _), H0, Lib.hid (Recs.nil _ _ _), Lib.hid (((Below.refl _ _).alloc (Nat.le_refl _) _).alloc (by simp) _)⟩
  case round =>
    obtain ⟨k, A', n', c', vs1, vs2, rfl, hc', hn', hA', own1, rec1, own2, rec2, hbl⟩ := hrel
    by_cases h18 : 18 ≤ n'
    · have hl' := Lib.hid (show n' = (l.drop (18 * k)).length by have := hN.out; have := hn'.out; simp; omega)
      have hsl := fun W => run_slice_from (P := Try.prog) Try.underlying22 (info_parts Try.infoByte).choose_spec.1 (info_parts Try.infoByte).choose_spec.2.2.1 A' n' c' 18 .i64 (by omega) W
      have hA2 := Lib.hid (hA'.out.drop (c := c') (by have := hl'.out; omega) 18)
      have hAr := Lib.hid (hA'.out.later hbl.out)
      have hzr := hbl.out.size
      have hdr : (l.drop (18 * k)).drop 18 = l.drop (18 * (k + 1)) := by rw [List.drop_drop]; congr 1
      replace hdr := Lib.hid hdr
      have hnb : n' ≤ 5400 := by have := hn'.out; omega
      have h8 : (coffL (l.drop (18 * k))).name.length = 8 := coffL_eight (by have := hl'.out; omega)
      replace h8 := Lib.hid h8
      have CALL := Lib.hid (specCoff_all A' (l.drop (18 * k)) n' c' hl' hc' (by omega) h18 wr hAr.out)
      have hs := coffsL_succ l k
      replace hs := Lib.hid hs
      obtain ⟨rc, hrc⟩ : ∃ rc, coffL (l.drop (18 * k)) = rc := ⟨_, rfl⟩
      rw [hrc] at hs h8 CALL
      replace hrc := Lib.hid hrc
      have hnm : Hid (RB w A' rc.name) := Lib.hid (by rw [← hrc.out]; exact hA'.out.take 8)
      obtain ⟨nm, x1, x2, x3, x4, x5⟩ := rc
      simp only [symTail] at CALL
      simp only at hnm h8
      go_wp2_with fail
      refine CALL.out.mono ?_
      rintro e w1 ⟨rfl, b1⟩
      go_wp2_with fail
      have g2 := Lib.hid (heap_alloc_new w1 (.cells #[.slice A' 8 c', .int .u32 x1, .int .i16 x2, .int .u16 x3, .int .u8 x4, .int .u8 x5] 39))
      have b2 := Lib.hid (b1.alloc b1.size (.cells #[.slice A' 8 c', .int .u32 x1, .int .i16 x2, .int .u16 x3, .int .u8 x4, .int .u8 x5] 39))
      have hW2 : (w1.alloc (.cells #[.slice A' 8 c', .int .u32 x1, .int .i16 x2, .int .u16 x3, .int .u8 x4, .int .u8 x5] 39)).heap.size = w1.heap.size + 1 := by simp
      have hV1 := b1.size
      replace hW2 := Lib.hid hW2
      generalize (w1.alloc (.cells #[.slice A' 8 c', .int .u32 x1, .int .i16 x2, .int .u16 x3, .int .u8 x4, .int .u8 x5] 39)) = W2 at *
      generalize w1.heap.size = V at *
      clear b1
      have own1' := owns_later own1.out b2.out
      have own2' := owns_later own2.out b2.out
      replace own1' := Lib.hid own1'
      replace own2' := Lib.hid own2'
      have hnm2 := Lib.hid ((hnm.out.later hbl.out).later b2.out)
      have r0 := World.cell?_of_row g2.out 0 _ rfl
      have r1 := World.cell?_of_row g2.out 1 _ rfl
      have r2 := World.cell?_of_row g2.out 2 _ rfl
      have r3 := World.cell?_of_row g2.out 3 _ rfl
      have r4 := World.cell?_of_row g2.out 4 _ rfl
      have r5 := World.cell?_of_row g2.out 5 _ rfl
      have hVlt : V < W2.heap.size := by have := hW2.out; omega
      have hneV : some V ≠ u4.ownBlock := fun e => by have := (own1.out.lt V e.symm).2; omega
      have hk3 : k ≤ 300 := by have := hn'.out; omega
      have hlt1 : Hid (∀ q, u4.ownBlock = some q → q < wr.heap.size) := Lib.hid (fun q hq => (own1.out.lt q hq).2)
      have hge1 : Hid (∀ q, u4.ownBlock = some q → w.heap.size ≤ q) := Lib.hid (fun q hq => (own1.out.lt q hq).1)
      go_region_held3 (fun w' => w'.cell? ⟨V, 0, none⟩ = some (.slice A' 8 c') ∧ w'.cell? ⟨V, 1, none⟩ = some (.int .u32 x1) ∧ w'.cell? ⟨V, 2, none⟩ = some (.int .i16 x2) ∧ w'.cell? ⟨V, 3, none⟩ = some (.int .u16 x3) ∧ w'.cell? ⟨V, 4, none⟩ = some (.int .u8 x4) ∧ w'.cell? ⟨V, 5, none⟩ = some (.int .u8 x5))
        (first | go_keep | exact K1.out | exact K2.out)
        (first | (refine step_append_bytes Try.underlying22 Try.infoByte (by rfl) (.tmp 21) (.tmp 23) (by rfl) W2.heap.size _ 0 [] (by rfl) (owns_new 5 (Nat.le_refl _)).drew A' 8 c' nm (by rfl) h8.out.symm (hnm2.out.later ((Below.refl _ _).alloc (Nat.le_refl _) _)).drew (by omega) (by simp) ?_; intro vN wN ownN gN atN; have bN : Below W2.heap.size W2 wN := (((Below.refl W2.heap.size W2).alloc (Nat.le_refl _) (.cells #[] 5)).drew).grown gN (by simp) (fun q hq => Nat.le_of_eq (Option.some.inj hq)); have K1 : Hid (wN.cell? ⟨V, 0, none⟩ = some (.slice A' 8 c') ∧ wN.cell? ⟨V, 1, none⟩ = some (.int .u32 x1) ∧ wN.cell? ⟨V, 2, none⟩ = some (.int .i16 x2) ∧ wN.cell? ⟨V, 3, none⟩ = some (.int .u16 x3) ∧ wN.cell? ⟨V, 4, none⟩ = some (.int .u8 x4) ∧ wN.cell? ⟨V, 5, none⟩ = some (.int .u8 x5)) := Lib.hid ⟨(bN.cell (p := ⟨V, 0, none⟩) hVlt).trans r0, (bN.cell (p := ⟨V, 1, none⟩) hVlt).trans r1, (bN.cell (p := ⟨V, 2, none⟩) hVlt).trans r2, (bN.cell (p := ⟨V, 3, none⟩) hVlt).trans r3, (bN.cell (p := ⟨V, 4, none⟩) hVlt).trans r4, (bN.cell (p := ⟨V, 5, none⟩) hVlt).trans r5⟩; have hsN := bN.size; have hVN : V < wN.heap.size := Nat.lt_of_lt_of_le hVlt hsN; clear gN atN; obtain ⟨NA, kA, rfl, RA, hk8, -⟩ := RT.of_owns ownN; replace RA := Lib.hid RA; have ownX := Lib.hid (owns_later own1'.out bN); replace bN := Lib.hid bN; clear ownN) | (refine step_append_any (by rfl) (.tmp 20) (.tmp 36) 23 (by rfl) w.heap.size 45 i0 _ 6 40 Try.underlying23 hi hz0 hz1 hz2 rfl (by omega) u4 k vs1 (by rfl) (ownX.out.alloc _) (some ⟨wN.heap.size, 0, none⟩) 1 1 [.slice NA 8 kA, .int .u32 x1, .int .i16 x2, .int .u16 x3, .int .u8 x4, .int .u8 x5] (by rfl) (rc_newN rfl rfl) (List.all_eq_true.1 rfl) (by simp only [maxLen]; omega) (by omega) (by simp; omega) ?_; intro v3 w3 own3 g3 at3; have K2 : Hid (w3.cell? ⟨V, 0, none⟩ = some (.slice A' 8 c') ∧ w3.cell? ⟨V, 1, none⟩ = some (.int .u32 x1) ∧ w3.cell? ⟨V, 2, none⟩ = some (.int .i16 x2) ∧ w3.cell? ⟨V, 3, none⟩ = some (.int .u16 x3) ∧ w3.cell? ⟨V, 4, none⟩ = some (.int .u8 x4) ∧ w3.cell? ⟨V, 5, none⟩ = some (.int .u8 x5)) := Lib.hid ⟨g3.cell ((((Below.refl _ wN).alloc (Nat.le_refl _) _).cell (p := ⟨V, 0, none⟩) hVN).trans K1.out.1) hneV, g3.cell ((((Below.refl _ wN).alloc (Nat.le_refl _) _).cell (p := ⟨V, 1, none⟩) hVN).trans K1.out.2.1) hneV, g3.cell ((((Below.refl _ wN).alloc (Nat.le_refl _) _).cell (p := ⟨V, 2, none⟩) hVN).trans K1.out.2.2.1) hneV, g3.cell ((((Below.refl _ wN).alloc (Nat.le_refl _) _).cell (p := ⟨V, 3, none⟩) hVN).trans K1.out.2.2.2.1) hneV, g3.cell ((((Below.refl _ wN).alloc (Nat.le_refl _) _).cell (p := ⟨V, 4, none⟩) hVN).trans K1.out.2.2.2.2.1) hneV, g3.cell ((((Below.refl _ wN).alloc (Nat.le_refl _) _).cell (p := ⟨V, 5, none⟩) hVN).trans K1.out.2.2.2.2.2) hneV⟩))
      have hkp := Keeps.of_grown (ownX.out.alloc (.cells #[.slice NA 8 kA, .int .u32 x1, .int .i16 x2, .int .u16 x3, .int .u8 x4, .int .u8 x5] 45)) g3
      have bX := Lib.hid ((Below.refl wN.heap.size wN).alloc (Nat.le_refl _) (.cells #[.slice NA 8 kA, .int .u32 x1, .int .i16 x2, .int .u16 x3, .int .u8 x4, .int .u8 x5] 45))
      have bNX := Lib.hid (b2.out.trans ((bN.out.trans (bX.out.mono hsN)).mono b2.out.size))
      have own4 := Lib.hid (owns_keeps (owns_later own2.out bNX.out) hkp (by decide))
      have hnew : IsCoffK w3 [.slice NA 8 kA, .int .u32 x1, .int .i16 x2, .int .u16 x3, .int .u8 x4, .int .u8 x5] ⟨nm, x1, x2, x3, x4, x5⟩ := IsCoffK.keeps (c := ⟨nm, x1, x2, x3, x4, x5⟩) (vs := [.slice NA 8 kA, .int .u32 x1, .int .i16 x2, .int .u16 x3, .int .u8 x4, .int .u8 x5]) ⟨NA, kA, rfl, hk8, h8.out, by simpa using RA.out.later bX.out⟩ hkp (by decide)
      have rec3 := Lib.hid (((rec1.out.mono (fun c x h => (h.later bNX.out).keeps hkp (by decide))).push (c := [.slice NA 8 kA, .int .u32 x1, .int .i16 x2, .int .u16 x3, .int .u8 x4, .int .u8 x5]) rfl hnew))
      rw [← hs.out] at rec3
      have rec4 := Lib.hid ((rec2.out.mono (w' := w3) (fun c x h => h)).push (c := [.slice A' 8 c', .int .u32 x1, .int .i16 x2, .int .u16 x3, .int .u8 x4, .int .u8 x5]) (x := ⟨nm, x1, x2, x3, x4, x5⟩) rfl ⟨A', c', rfl, by omega, h8.out, hnm.out⟩)
      rw [← hs.out] at rec4
      have b3 := Lib.hid ((hbl.out.trans (bNX.out.mono hzr)).grown g3 (by simp; omega) hge1.out)
      replace own3 := Lib.hid own3
      have hz3 := b3.out.size
      clear g3 at3 hkp own1 own2 rec1 rec2 own1' own2' bN bX bNX hnew hbl ownX RA r0 r1 r2 r3 r4 r5 K1
      obtain ⟨k0, k1, k2, k3, k4, k5⟩ := K2.out
      clear K2
      have own5 := Lib.hid (own4.out.alloc (.cells #[.slice A' 8 c', .int .u32 x1, .int .i16 x2, .int .u16 x3, .int .u8 x4, .int .u8 x5] 39))
      go_wp2_with (at_builtin; refine Stop.mk ?_)
      refine Stop.go ?_
      refine wpList_append_any rfl (.tmp 38) (.tmp 40) 24 rfl w.heap.size 39 i1 _ 6 40 Try.underlying24 hi1 hy0 hy1 hy2 rfl (by omega) _ k _ rfl own5.out (some ⟨w3.heap.size, 0, none⟩) 1 1 [.slice A' 8 c', .int .u32 x1, .int .i16 x2, .int .u16 x3, .int .u8 x4, .int .u8 x5] rfl (rc_newN rfl rfl) (List.all_eq_true.1 rfl) (by simp only [maxLen]; omega) (by omega) (by simp; omega) ?_
      intro v5 w5 own6 g5 at5
      have hk5 := Keeps.of_grown own5.out g5
      have b5 := Lib.hid ((b3.out.alloc hz3 (.cells #[.slice A' 8 c', .int .u32 x1, .int .i16 x2, .int .u16 x3, .int .u8 x4, .int .u8 x5] 39)).grown g5 (by simp; omega) (fun q hq => (own4.out.lt q hq).1))
      have own7 := Lib.hid (owns_keeps (own3.out.alloc (.cells #[.slice A' 8 c', .int .u32 x1, .int .i16 x2, .int .u16 x3, .int .u8 x4, .int .u8 x5] 39)) hk5 (by decide))
      have rec5 := Lib.hid (rec3.out.mono (fun c x h => (h.later ((Below.refl w3.heap.size w3).alloc (Nat.le_refl _) (.cells #[.slice A' 8 c', .int .u32 x1, .int .i16 x2, .int .u16 x3, .int .u8 x4, .int .u8 x5] 39))).keeps hk5 (by decide)))
      have rec6 := Lib.hid (rec4.out.mono (w' := w5) (fun c x h => h))
      replace own6 := Lib.hid own6
      clear g5 at5 hk5 own4 own5 b3 own3 rec3 rec4 k0 k1 k2 k3 k4 k5
      rw [hdr.out] at hA2
      go_wp2
      go_roundw
      case rel => exact ⟨k + 1, _, _, _, _, _, rfl, by omega, Lib.hid (by have := hn'.out; omega), hA2, own7, rec5, own6, rec6, b5⟩
      case measure => simp; omega
    · have hkN : k = N := by have := hn'.out; have := hNN.out; omega
      subst hkN
      go_wp2
      go_ret2
      exact ⟨⟨_, _, _, _, rfl, own1, rec1, own2, rec2⟩, hbl.out⟩
end Go.Proofs.Ytoobkbnhfkfoaaa
