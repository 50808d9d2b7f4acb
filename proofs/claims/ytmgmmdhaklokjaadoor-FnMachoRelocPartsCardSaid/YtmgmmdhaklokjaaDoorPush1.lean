/-
  A section is pushed: the contract of pushSection.
-/
import Derived.Test.YtmgmmdhaklokjaaDoorPush0
namespace Go.Proofs.YtmgmmdhaklokjaaDoor
set_option linter.unusedVariables false
set_option linter.unusedSimpArgs false
open Go Go.RowKit
attribute [local go_sem ↓] Go.wp_at_zero Go.wp_at_succ

/-- What pushSection leaves behind where it ends well. -/
def PushOk (F H M : Nat) (big : Bool) (l : List UInt8) (fr : Value → List Value) (hr : Value → Value → Value → List Value) (off size reloff n m base : Nat) (secs : List Value) (w w' : World) : Prop :=
  ∃ sv rv S, Hid (w'.heap[F]? = some (.cells (fr sv).toArray 84 (0, 0))) ∧ Hid (w'.ownsRow base 96 1 sv (m + 1) (secs ++ [.pointer (some ⟨H, 0, none⟩)])) ∧
    Hid (w'.heap[H]? = some (.cells (hr rv (.iface 101 (.pointer (some ⟨S, 0, none⟩))) (.pointer (some ⟨S, 0, none⟩))).toArray 103 (0, 0))) ∧
    Hid (w'.heap[S]? = some (.cells #[.iface 105 (.pointer (some ⟨M, 0, none⟩)), .int .i64 off, .int .i64 off, .int .i64 ((size : Int) + (off : Int)), .int .i64 size] 138 (0, 0))) ∧ Hid (w.heap.size ≤ S) ∧
    Hid (w'.ownsRow w.heap.size 107 7 rv n (relRow big (l.drop reloff) n))
def PushPost (F H M : Nat) (big : Bool) (l : List UInt8) (fr : Value → List Value) (hr : Value → Value → Value → List Value) (off size reloff n m base : Nat) (secs : List Value) (T : Nat → Prop) (w : World) (e : Ending) (w' : World) : Prop :=
  Chg T w w' ∧
  (((reloff + 8 * n ≤ l.length ∨ n = 0) ∧ e = .returned .nilIface ∧ PushOk F H M big l fr hr off size reloff n m base secs w w') ∨
   (l.length < reloff + 8 * n ∧ 0 < n ∧ Hid (w'.cell? ⟨H, 9, none⟩ = some (.slice none 0 0)) ∧ ∃ T v, e = .returned (.iface T v)))

set_option maxRecDepth 100000 in
set_option maxHeartbeats 8000000 in
theorem push_any (F H M : Nat) (D : Nat → Prop) (big : Bool) (l : List UInt8) (h0 h1 h2 h3 h4 h5 h6 ld sv st ds nm sg ad al fl : Value) (off size reloff n m : Nat) (base : Nat) (secs : List Value) (w : World) (hoff : off ≤ 4294967295) (hsize : size ≤ 4294967295) (hreloff : reloff ≤ 4294967295) (hn : n ≤ 131072) (TE TU : TypeId) (vE vU : Value) (hErr : Hid (ErrsAt w TE TU vE vU)) (h3g : 3 ≤ w.heap.size) (hM : Hid (AtB w D M l)) (hd : Hid (¬ D F ∧ ¬ D H ∧ 3 ≤ F ∧ 3 ≤ H ∧ ∀ k, sv.ownBlock = some k → ¬ D k ∧ 3 ≤ k))
    (hF : Hid (w.heap[F]? = some (.cells #[h0, h1, h2, h3, h4, h5, h6, .int .u8 (ordn big), ld, sv, st, ds] 84 (0, 0)))) (hFH : F ≠ H)
    (hH : Hid (w.heap[H]? = some (.cells #[nm, sg, ad, .int .u64 size, .int .u32 off, al, .int .u32 reloff, .int .u32 n, fl, .slice none 0 0, .nilIface, .pointer none] 103 (0, 0))))
    (hown : Hid (w.ownsRow base 96 1 sv m secs)) (hb : base ≤ w.heap.size) (hm : m ≤ 1000) :
    Calls Tryd.prog 28 #[.pointer (some ⟨F, 0, none⟩), .pointer (some ⟨H, 0, none⟩), .iface 105 (.pointer (some ⟨M, 0, none⟩))] w (PushPost F H M big l (fun sv => [h0, h1, h2, h3, h4, h5, h6, .int .u8 (ordn big), ld, sv, st, ds]) (fun rv ra sr => [nm, sg, ad, .int .u64 size, .int .u32 off, al, .int .u32 reloff, .int .u32 n, fl, rv, ra, sr]) off size reloff n m base secs (fun k => k = F ∨ k = H ∨ sv.ownBlock = some k) w) := by
  obtain ⟨i0, hi, hz0, hz1, hz2⟩ := info_parts Tryd.infoSecP
  have c9 := World.cell?_of_row (l := [h0, h1, h2, h3, h4, h5, h6, .int .u8 (ordn big), ld, sv, st, ds]) hF.out 9 _ rfl
  go_enter Tryd.func28, Tryd.ntmps28
  go_wp2_with (at_builtin; refine Stop.mk ?_)
  refine Stop.go ?_
  refine wpList_append_any rfl (.tmp 19) (.tmp 21) 80 rfl base 96 i0 (.pointer none) 1 8 Tryd.underlying80 hi hz0 hz1 hz2 rfl (by omega) sv m secs rfl (hown.out.alloc _) (some ⟨w.heap.size, 0, none⟩) 1 1 [.pointer (some ⟨H, 0, none⟩)] rfl (RC.one (World.cell?_alloc_new _ _ _ _)) (List.all_eq_true.1 rfl) (by simp only [maxLen]; omega) (by omega) (by simp; omega) ?_
  intro v1 w1 own1 g1 at1
  obtain ⟨A1, ca1, rfl, -, -, -⟩ := RT.of_owns own1
  have k0 : Keeps 96 w (w.alloc (.cells #[.pointer (some ⟨H, 0, none⟩)] 96)) := (Keeps.refl _ w).alloc _
  have k1 := k0.trans (Keeps.of_grown (hown.out.alloc _) g1)
  have hF1 := Lib.hid (k1.block F _ _ _ hF.out (by decide))
  have hH1 := Lib.hid (k1.block H _ _ _ hH.out (by decide))
  have e9 := World.cell?_of_row (l := [h0, h1, h2, h3, h4, h5, h6, .int .u8 (ordn big), ld, sv, st, ds]) hF1.out 9 _ rfl
  have f9 := frozen_of_row _ F 9 _ _ hF1.out
  obtain ⟨w2, e2, hF2, hC2, hs2⟩ := stored 9 (.slice A1 (m + 1) ca1) hF1
  have hH2 := Lib.hid (hC2.out.row hH1.out (fun e => hFH e.symm))
  have own2 : Hid (w2.ownsRow base 96 1 (.slice A1 (m + 1) ca1) (m + 1) (secs ++ [.pointer (some ⟨H, 0, none⟩)])) := Lib.hid (owns_keeps own1 (Keeps.of_chg (e := 84) hC2.out (fun k _ hk => by subst hk; exact ⟨_, _, hF1.out⟩)) (by decide))
  have C2 : Hid (Chg (fun k => k = F ∨ k = H ∨ sv.ownBlock = some k) w w2) := Lib.hid ((((Chg.refl _ w).alloc _).grown g1 (fun k e => .inl (.inr (.inr e)))).trans (hC2.out.mono (fun k _ e => .inl (.inl e))))
  have hz2' : Hid (w.heap.size ≤ w2.heap.size) := Lib.hid (by rw [hs2.out]; have := g1.size; simp at this; omega)
  have d3 := World.cell?_of_row (l := [nm, sg, ad, .int .u64 size, .int .u32 off, al, .int .u32 reloff, .int .u32 n, fl, .slice none 0 0, .nilIface, .pointer none]) hH2.out 3 _ rfl
  have d4 := World.cell?_of_row (l := [nm, sg, ad, .int .u64 size, .int .u32 off, al, .int .u32 reloff, .int .u32 n, fl, .slice none 0 0, .nilIface, .pointer none]) hH2.out 4 _ rfl
  have d7 := World.cell?_of_row (l := [nm, sg, ad, .int .u64 size, .int .u32 off, al, .int .u32 reloff, .int .u32 n, fl, .slice none 0 0, .nilIface, .pointer none]) hH2.out 7 _ rfl
  have d11 := World.cell?_of_row (l := [nm, sg, ad, .int .u64 size, .int .u32 off, al, .int .u32 reloff, .int .u32 n, fl, .slice none 0 0, .nilIface, .pointer none]) hH2.out 11 _ rfl
  have f11 := frozen_of_row _ H 11 _ _ hH2.out
  have f10 := frozen_of_row _ H 10 _ _ hH2.out
  have q1 : IntKind.i64.wrap (size : Int) = (size : Int) := IntWalk.i64_in _ (by omega)
  have q2 : IntKind.i64.wrap (off : Int) = (off : Int) := IntWalk.i64_in _ (by omega)
  have hHlt : H < w2.heap.size := (Array.getElem?_eq_some_iff.1 hH2.out).1
  have hK3 := Lib.hid (fun (x : Value) (o : Obj) => (cell_set_alloc (x := x) (o := o) hHlt (show 11 ≠ 3 by decide)).trans d3)
  have hK4 := Lib.hid (fun (x : Value) (o : Obj) => (cell_set_alloc (x := x) (o := o) hHlt (show 11 ≠ 4 by decide)).trans d4)
  clear own1 g1 at1 k0 k1 c9
  go_wp2_with fail
  rw [← e2]
  clear e2
  go_region_held3 (fun w' => w'.cell? ⟨H, 3, none⟩ = some (.int .u64 size) ∧ w'.cell? ⟨H, 4, none⟩ = some (.int .u32 off))
    (first | exact ⟨hK3.out _ _, hK4.out _ _⟩ | go_keep) (first | (go_at_call 35; refine (newSection 105 ⟨M, 0, none⟩ off size hoff hsize _).mono ?_; rintro e w' ⟨rfl, rfl⟩))
  obtain ⟨w3, e3, hH3, hC3, hs3⟩ := stored 11 (.pointer (some ⟨w2.heap.size, 0, none⟩)) hH2
  rw [← e3]
  clear e3
  have hF3 := hC3.out.row hF2.out hFH
  have own3 := owns_keeps own2.out (Keeps.of_chg (e := 103) hC3.out (fun k _ hk => by subst hk; exact ⟨_, _, hH2.out⟩)) (by decide)
  have hS4 := heap_alloc_new w3 (.cells #[.iface 105 (.pointer (some ⟨M, 0, none⟩)), .int .i64 off, .int .i64 off, .int .i64 ((size : Int) + (off : Int)), .int .i64 size] 138)
  have b4 : Below w3.heap.size w3 (w3.alloc (.cells #[.iface 105 (.pointer (some ⟨M, 0, none⟩)), .int .i64 off, .int .i64 off, .int .i64 ((size : Int) + (off : Int)), .int .i64 size] 138)).drew := ((Below.refl _ w3).alloc (Nat.le_refl _) _).drew
  have hF4 := (b4.block F (Array.getElem?_eq_some_iff.1 hF3).1).trans hF3
  have hH4 := (b4.block H (Array.getElem?_eq_some_iff.1 hH3.out).1).trans hH3.out
  have own4 := owns_later own3 b4
  rw [hs3.out] at hS4
  obtain ⟨w4, e4⟩ : ∃ w4, (w3.alloc (.cells #[.iface 105 (.pointer (some ⟨M, 0, none⟩)), .int .i64 off, .int .i64 off, .int .i64 ((size : Int) + (off : Int)), .int .i64 size] 138)).drew = w4 := ⟨_, rfl⟩
  rw [e4] at hF4 hH4 own4 b4
  have hS4' : w4.heap[w2.heap.size]? = some (.cells #[.iface 105 (.pointer (some ⟨M, 0, none⟩)), .int .i64 off, .int .i64 off, .int .i64 ((size : Int) + (off : Int)), .int .i64 size] 138 (0, 0)) := by rw [← e4]; exact hS4
  rw [e4]
  have C4 : Hid (Chg (fun k => k = F ∨ k = H ∨ sv.ownBlock = some k) w w4) := Lib.hid ((C2.out.trans (hC3.out.mono (fun k _ e => .inl (.inr (.inl e))))).trans (Chg.of_below b4 (fun k _ h => .inr (by have := hs3.out; have := hz2'.out; omega))))
  have r11 := World.cell?_of_row (l := [nm, sg, ad, .int .u64 size, .int .u32 off, al, .int .u32 reloff, .int .u32 n, fl, .slice none 0 0, .nilIface, .pointer (some ⟨w2.heap.size, 0, none⟩)]) hH4 11 _ rfl
  have r7 := World.cell?_of_row (l := [nm, sg, ad, .int .u64 size, .int .u32 off, al, .int .u32 reloff, .int .u32 n, fl, .slice none 0 0, .nilIface, .pointer (some ⟨w2.heap.size, 0, none⟩)]) hH4 7 _ rfl
  have r10 := World.cell?_of_row (l := [nm, sg, ad, .int .u64 size, .int .u32 off, al, .int .u32 reloff, .int .u32 n, fl, .slice none 0 0, .nilIface, .pointer (some ⟨w2.heap.size, 0, none⟩)]) hH4 10 _ rfl
  have f10 := frozen_of_row _ H 10 _ _ hH4
  obtain ⟨w5, e5, hH5, hC5, hs5⟩ := stored 10 (.iface 101 (.pointer (some ⟨w2.heap.size, 0, none⟩))) (Lib.hid hH4)
  have hF5 := Lib.hid (hC5.out.row hF4 hFH)
  have own5 := Lib.hid (owns_keeps own4 (Keeps.of_chg (e := 103) hC5.out (fun k _ hk => by subst hk; exact ⟨_, _, hH4⟩)) (by decide))
  have hS5 := Lib.hid (hC5.out.row hS4' (fun e => by omega))
  have C5 := Lib.hid (C4.out.trans (hC5.out.mono (fun k _ e => .inl (.inr (.inl e)))))
  replace hs5 := Lib.hid hs5
  clear hS4' hC5 C4 e4 own4 hF4 hH4 b4 hS4 hH3 hC3 hs3 d3 d4 d7 d11 f11 hK3 hK4 own3 hF3 hH2 hF2 own2 hC2 C2 e9 f9
  by_cases hn0 : n = 0
  · subst hn0
    go_wp2
    rw [← e5]
    go_ret
    exact ⟨C5.out, .inl ⟨.inr rfl, rfl, _, .slice none 0 0, w2.heap.size, hF5, own5, hH5, hS5, hz2', Lib.hid (World.ownsRow_nil _ _ _ _)⟩⟩
  · have hn1 : (0 : Int) < (n : Int) := by omega
    have hd' := hd.out
    have hz5 : w.heap.size ≤ w5.heap.size := C5.out.size
    have M5 := Lib.hid (hM.out.chg C5.out (fun k hk h => by
      rcases h with h | h | h
      · exact hd'.1 (h ▸ hk)
      · exact hd'.2.1 (h ▸ hk)
      · exact (hd'.2.2.2.2 k h).1 hk))
    have E5 := Lib.hid (hErr.out.chg C5.out (fun h => by rcases h with h | h | h <;> first | (have := (hd'.2.2.2.2 _ h).2; omega) | omega) (fun h => by rcases h with h | h | h <;> first | (have := (hd'.2.2.2.2 _ h).2; omega) | omega))
    clear hd'
    have t6 := World.cell?_of_row (l := [nm, sg, ad, .int .u64 size, .int .u32 off, al, .int .u32 reloff, .int .u32 n, fl, .slice none 0 0, .iface 101 (.pointer (some ⟨w2.heap.size, 0, none⟩)), .pointer (some ⟨w2.heap.size, 0, none⟩)]) hH5.out 6 _ rfl
    have t7 := World.cell?_of_row (l := [nm, sg, ad, .int .u64 size, .int .u32 off, al, .int .u32 reloff, .int .u32 n, fl, .slice none 0 0, .iface 101 (.pointer (some ⟨w2.heap.size, 0, none⟩)), .pointer (some ⟨w2.heap.size, 0, none⟩)]) hH5.out 7 _ rfl
    have q3 : IntKind.u64.wrap (n : Int) = (n : Int) := IntWalk.u64_in _ (by omega)
    have q4 : IntKind.u64.wrap ((n : Int) * 8) = ((8 * n : Nat) : Int) := by rw [IntWalk.u64_in _ (by omega)]; omega
    have q5 : IntKind.i64.wrap (reloff : Int) = (reloff : Int) := IntWalk.i64_in _ (by omega)
    have hSlt : w2.heap.size < w5.heap.size := (Array.getElem?_eq_some_iff.1 hS5.out).1
    have hFlt : F < w5.heap.size := (Array.getElem?_eq_some_iff.1 hF5.out).1
    have hHlt5 : H < w5.heap.size := (Array.getElem?_eq_some_iff.1 hH5.out).1
    by_cases hle : reloff + 8 * n ≤ l.length
    · have CALL : Hid (∀ q, Calls Tryd.prog 36 #[.iface 105 (.pointer (some ⟨M, 0, none⟩)), .int .u64 (8 * n : Nat), .int .i64 reloff] (w5.drewN q) fun e w' => (∃ v, e = .returned (.tuple #[v, .nilIface]) ∧ Hid (w'.ownsRow w5.heap.size 5 1 v (8 * n) (((l.drop reloff).take (8 * n)).map bv))) ∧ Below w5.heap.size w5 w') := Lib.hid (fun q => (readDataAt_ok M D l reloff (8 * n) (w5.drewN q) TE TU vE vU (by exact E5) (by show 3 ≤ w5.heap.size; omega) (by omega) hreloff (by exact M5) (.inl hle)).mono fun e w' ⟨h, b⟩ => ⟨h, ⟨b.os, b.tape, b.output, b.size, b.block⟩⟩)
      go_wp2_with fail
      rw [← e5]
      clear e5
      go_region_held3 (fun w' => w'.cell? ⟨H, 7, none⟩ = some (.int .u32 n) ∧ w'.cell? ⟨H, 6, none⟩ = some (.int .u32 reloff))
        (first | exact ⟨t7, t6⟩ | exact K6.out | go_keep) (first | (go_at_call 36; refine (CALL.out 1).mono ?_; rintro e w6 ⟨⟨v, rfl, hown6⟩, b6⟩; have K6 : Hid (w6.cell? ⟨H, 7, none⟩ = some (.int .u32 n) ∧ w6.cell? ⟨H, 6, none⟩ = some (.int .u32 reloff)) := Lib.hid ⟨(b6.cell (p := ⟨H, 7, none⟩) hHlt5).trans t7, (b6.cell (p := ⟨H, 6, none⟩) hHlt5).trans t6⟩))
      have hmk := makeRels .u32 n hn
      obtain ⟨-, A6, c6, rfl, R6, hc6, -, hA6, -⟩ := RB.of_owns hown6.out
      have hz6 := b6.size
      have hlt6 : ∀ a, A6 = some a → a.block < w6.heap.size := fun a ha => owned_lt hown6.out (by rw [ha])
      have RD7 := Rdr.made (w := w6) (A := A6) (n := 8 * n) (c := c6) (l := (l.drop reloff).take (8 * n)) (by simp; omega) (by omega) hc6 R6 hlt6 (by omega)
      have F6 := (b6.block F hFlt).trans hF5.out
      have H6 := (b6.block H hHlt5).trans hH5.out
      have b7 : Below w6.heap.size w6 (w6.alloc (.cells #[.slice A6 (8 * n) c6, .int .i64 0, .int .i64 (-1)] 125)) := (Below.refl _ _).alloc (Nat.le_refl _) _
      have b8 : Below (w6.alloc (.cells #[.slice A6 (8 * n) c6, .int .i64 0, .int .i64 (-1)] 125)).heap.size (w6.alloc (.cells #[.slice A6 (8 * n) c6, .int .i64 0, .int .i64 (-1)] 125)) ((w6.alloc (.cells #[.slice A6 (8 * n) c6, .int .i64 0, .int .i64 (-1)] 125)).alloc (.cells (zerosL n).toArray 107)) := (Below.refl _ _).alloc (Nat.le_refl _) _
      have RD8 := RD7.later b8
      have gR8 := heap_alloc_new (w6.alloc (.cells #[.slice A6 (8 * n) c6, .int .i64 0, .int .i64 (-1)] 125)) (.cells (zerosL n).toArray 107)
      have b68 := b7.trans (b8.mono b7.size)
      have F8 := (b68.block F (by omega)).trans F6
      have H8 := (b68.block H (by omega)).trans H6
      have b58 := b6.trans (b68.mono hz6)
      have c7 := World.cell?_of_row (l := [h0, h1, h2, h3, h4, h5, h6, .int .u8 (ordn big), ld, .slice A1 (m + 1) ca1, st, ds]) ((b7.block F (by omega)).trans F6) 7 _ rfl
      have u7 := World.cell?_of_row (l := [nm, sg, ad, .int .u64 size, .int .u32 off, al, .int .u32 reloff, .int .u32 n, fl, .slice none 0 0, .iface 101 (.pointer (some ⟨w2.heap.size, 0, none⟩)), .pointer (some ⟨w2.heap.size, 0, none⟩)]) ((b7.block H (by omega)).trans H6) 7 _ rfl
      have u9 := World.cell?_of_row (l := [nm, sg, ad, .int .u64 size, .int .u32 off, al, .int .u32 reloff, .int .u32 n, fl, .slice none 0 0, .iface 101 (.pointer (some ⟨w2.heap.size, 0, none⟩)), .pointer (some ⟨w2.heap.size, 0, none⟩)]) H8 9 _ rfl
      have v9 := frozen_of_row _ H 9 _ _ H8
      rw [World.size_alloc] at gR8
      have hsz8 : ((w6.alloc (.cells #[.slice A6 (8 * n) c6, .int .i64 0, .int .i64 (-1)] 125)).alloc (.cells (zerosL n).toArray 107)).heap.size = w6.heap.size + 2 := by simp
      obtain ⟨w9, e9', hH9, hC9, hs9⟩ := stored 9 (.slice (some ⟨w6.heap.size + 1, 0, none⟩) n n) (Lib.hid H8)
      have y9 := World.cell?_of_row (l := [nm, sg, ad, .int .u64 size, .int .u32 off, al, .int .u32 reloff, .int .u32 n, fl, .slice (some ⟨w6.heap.size + 1, 0, none⟩) n n, .iface 101 (.pointer (some ⟨w2.heap.size, 0, none⟩)), .pointer (some ⟨w2.heap.size, 0, none⟩)]) hH9.out 9 _ rfl
      replace hsz8 := Lib.hid hsz8
      clear K6 CALL hmk
      have hmk := makeRels .u32 n hn
      go_wp2_with fail
      refine (newReader _ A6 (8 * n) c6 rfl _).mono ?_
      rintro e w' ⟨rfl, rfl⟩
      go_wp2_with fail
      rw [← e9']
      clear e9'
      have hR9 := Lib.hid (hC9.out.row (g := w6.heap.size + 1) gR8 (by omega))
      have hDH : ∀ x, (∃ a, A6 = some a ∧ a.block = x) → w5.heap.size ≤ x := fun x ⟨a, ha, e⟩ => by have := (hA6 a ha).1; omega
      have RD9 := Lib.hid (RD8.chg hC9.out (by omega) (fun x hx e => by have := hDH x hx; omega))
      have hDlt : Hid (∀ x, (∃ a, A6 = some a ∧ a.block = x) → x < w6.heap.size) := Lib.hid (fun x ⟨a, ha, e⟩ => by have := hlt6 a ha; omega)
      have F9 := Lib.hid (hC9.out.row F8 hFH)
      have C9 := Lib.hid (C5.out.trans ((Chg.of_below (S := fun k => (k = F ∨ k = H ∨ sv.ownBlock = some k) ∨ w.heap.size ≤ k) b58 (fun k _ h => .inr (by omega))).trans (hC9.out.mono (fun k _ e => .inl (.inl (.inr (.inl e)))))))
      have S9 := Lib.hid (hC9.out.row ((b58.block w2.heap.size (Array.getElem?_eq_some_iff.1 hS5.out).1).trans hS5.out) (by omega))
      have own9 := Lib.hid (owns_keeps (owns_later own5.out b58) (Keeps.of_chg (e := 103) hC9.out (fun k _ hk => by subst hk; exact ⟨_, _, H8⟩)) (by decide))
      have hsl5 : Hid (∀ x, (Value.slice A1 (m + 1) ca1).ownBlock = some x → x < w5.heap.size) := Lib.hid (fun x hx => (own5.out.lt x hx).2)
      have hz9 : w9.heap.size = w6.heap.size + 2 := by rw [hs9.out, hsz8.out]
      have hH9' := hH9
      have hlenS := Lib.hid (show ((l.drop reloff).take (8 * n)).length = 8 * n by simp; omega)
      have hrels := Lib.hid (relRow_take big (l.drop reloff) n n (Nat.le_refl _))
      obtain ⟨sd, hsd⟩ : ∃ sd, (l.drop reloff).take (8 * n) = sd := ⟨_, rfl⟩
      rw [hsd] at RD9 hlenS hrels
      replace hz9 := Lib.hid hz9
      clear c7 u7 u9 v9 F8 H8 b68 b58 gR8 RD8 RD7 b7 b8 F6 H6 R6 hown6 hC9 hs9 hsz8 hDH own5 hS5 hF5 hH5 C5 t6 t7 b6 hA6 hlt6 hsd r11 r7 r10 f10
      go_loopw [97] (fun i wr => ∃ k : Nat, k ≤ n ∧ i = .int .i64 k ∧ Hid (wr.heap[w6.heap.size + 1]? = some (.cells (relRow big sd k ++ zerosL (n - k)).toArray 107 (0, 0))) ∧
        Hid (Rdr wr (.iface 105 (.pointer (some ⟨w6.heap.size, 0, none⟩))) w6.heap.size (fun x => ∃ a, A6 = some a ∧ a.block = x) sd (8 * k)) ∧ Hid (Chg (fun x => x = w6.heap.size + 1 ∨ x = w6.heap.size) w9 wr)) (fun i _ => n - (intOf i).toNat)
      case atStart => exact ⟨0, Nat.zero_le _, rfl, hR9, RD9, Lib.hid (Chg.refl _ _)⟩
      case round =>
        obtain ⟨k, hk, rfl, hrow, hrd, hch⟩ := hrel
        have hzr := hch.out.size
        have hHr := hch.out.row hH9.out (fun e => by omega)
        have yr := World.cell?_of_row (l := [nm, sg, ad, .int .u64 size, .int .u32 off, al, .int .u32 reloff, .int .u32 n, fl, .slice (some ⟨w6.heap.size + 1, 0, none⟩) n n, .iface 101 (.pointer (some ⟨w2.heap.size, 0, none⟩)), .pointer (some ⟨w2.heap.size, 0, none⟩)]) hHr 9 _ rfl
        by_cases hkn : k < n
        · have hz9' := hz9.out
          have hMR : w6.heap.size < wr.heap.size := hrd.out.lt
          have hRlt : w6.heap.size + 1 < wr.heap.size := (Array.getElem?_eq_some_iff.1 hrow.out).1
          have er : relRow big sd k ++ zerosL (n - k) = relRow big sd k ++ ([.int .u32 0, .int .u32 0, .int .u8 0, .int .u8 0, .bool false, .bool false, .bool false] ++ zerosL (n - (k + 1))) := by
            rw [show n - k = (n - (k + 1)) + 1 by omega]
            rfl
          rw [er] at hrow
          have bA : Below wr.heap.size wr (wr.alloc (.cells #[.int .u32 0, .int .u32 0] 123)) := (Below.refl _ _).alloc (Nat.le_refl _) _
          have gV := Lib.hid (heap_alloc_new wr (.cells #[.int .u32 0, .int .u32 0] 123))
          have rdA := Lib.hid (hrd.out.later bA)
          have hrA := row_alloc hrow (.cells #[.int .u32 0, .int .u32 0] 123)
          have hHA := row_alloc (Lib.hid hHr) (.cells #[.int .u32 0, .int .u32 0] 123)
          have hVD : Hid (¬ ∃ a, A6 = some a ∧ a.block = wr.heap.size) := Lib.hid (fun h => by have := hDlt.out _ h; omega)
          have hps : Hid (8 * k + 8 ≤ sd.length) := Lib.hid (by rw [hlenS.out]; omega)
          have CALL := Lib.hid (readrelocInfo_all wr.heap.size w6.heap.size (.iface 105 (.pointer (some ⟨w6.heap.size, 0, none⟩))) (fun x => ∃ a, A6 = some a ∧ a.block = x) sd (8 * k) big 123 (wr.alloc (.cells #[.int .u32 0, .int .u32 0] 123)) rdA hps (by omega) hVD gV)
          rw [frel_eq] at CALL
          have hal := relA_lt big sd k
          have hbl := relB_lt big sd k
          have hrs := Lib.hid (relRow_succ big sd k)
          have hO := Lib.hid (relRow_len big sd k)
          have hki0 : (0 : Int) ≤ (k : Int) := by omega
          have hki1 : (k : Int) < (n : Int) := by omega
          obtain ⟨a, ha⟩ : ∃ a, relA big sd k = a := ⟨_, rfl⟩
          obtain ⟨b, hb'⟩ : ∃ b, relB big sd k = b := ⟨_, rfl⟩
          rw [ha] at CALL hal hrs
          rw [hb'] at CALL hbl hrs
          clear ha hb' er gV rdA hVD hHr bA
          go_wp2_with fail
          refine CALL.out.mono ?_
          rintro e w10 ⟨rfl, rd10, gV10, C10⟩
          have hr10 := Lib.hid (C10.row hrA.out (by omega))
          have hH10 := Lib.hid (C10.row hHA.out (by omega))
          have rd10' : Hid (Rdr w10 (.iface 105 (.pointer (some ⟨w6.heap.size, 0, none⟩))) w6.heap.size (fun x => ∃ a, A6 = some a ∧ a.block = x) sd (8 * (k + 1))) := rd10
          have C10' := Lib.hid (hch.out.trans (((Chg.refl (fun x => (x = w6.heap.size + 1 ∨ x = w6.heap.size) ∨ w9.heap.size ≤ x) wr).alloc (.cells #[.int .u32 0, .int .u32 0] 123)).trans (C10.mono (fun x _ hx => by rcases hx with hx | hx <;> omega))))
          have ca := World.cell?_of_row gV10.out 0 _ rfl
          have cb := World.cell?_of_row gV10.out 1 _ rfl
          have z0 : w10.cell? ⟨w6.heap.size + 1, k * 7, none⟩ = some (.int .u32 0) := cell_mid hO hr10 0 rfl
          have fz0 : w10.frozen? ⟨w6.heap.size + 1, k * 7, none⟩ = false := frozen_of_row _ _ _ _ _ hr10.out
          have z1 : w10.cell? ⟨w6.heap.size + 1, k * 7 + 1, none⟩ = some (.int .u32 0) := cell_mid hO hr10 1 rfl
          have fz1 : w10.frozen? ⟨w6.heap.size + 1, k * 7 + 1, none⟩ = false := frozen_of_row _ _ _ _ _ hr10.out
          have z2 : w10.cell? ⟨w6.heap.size + 1, k * 7 + 2, none⟩ = some (.int .u8 0) := cell_mid hO hr10 2 rfl
          have fz2 : w10.frozen? ⟨w6.heap.size + 1, k * 7 + 2, none⟩ = false := frozen_of_row _ _ _ _ _ hr10.out
          have z3 : w10.cell? ⟨w6.heap.size + 1, k * 7 + 3, none⟩ = some (.int .u8 0) := cell_mid hO hr10 3 rfl
          have fz3 : w10.frozen? ⟨w6.heap.size + 1, k * 7 + 3, none⟩ = false := frozen_of_row _ _ _ _ _ hr10.out
          have z4 : w10.cell? ⟨w6.heap.size + 1, k * 7 + 4, none⟩ = some (.bool false) := cell_mid hO hr10 4 rfl
          have fz4 : w10.frozen? ⟨w6.heap.size + 1, k * 7 + 4, none⟩ = false := frozen_of_row _ _ _ _ _ hr10.out
          have z5 : w10.cell? ⟨w6.heap.size + 1, k * 7 + 5, none⟩ = some (.bool false) := cell_mid hO hr10 5 rfl
          have fz5 : w10.frozen? ⟨w6.heap.size + 1, k * 7 + 5, none⟩ = false := frozen_of_row _ _ _ _ _ hr10.out
          have z6 : w10.cell? ⟨w6.heap.size + 1, k * 7 + 6, none⟩ = some (.bool false) := cell_mid hO hr10 6 rfl
          have fz6 : w10.frozen? ⟨w6.heap.size + 1, k * 7 + 6, none⟩ = false := frozen_of_row _ _ _ _ _ hr10.out
          have hH9z := World.cell?_of_row (l := [nm, sg, ad, .int .u64 size, .int .u32 off, al, .int .u32 reloff, .int .u32 n, fl, .slice (some ⟨w6.heap.size + 1, 0, none⟩) n n, .iface 101 (.pointer (some ⟨w2.heap.size, 0, none⟩)), .pointer (some ⟨w2.heap.size, 0, none⟩)]) hH10.out 9 _ rfl
          have hne2 : ¬ wr.heap.size = w6.heap.size + 1 := by omega
          have hne3 : ¬ w6.heap.size + 1 = wr.heap.size := by omega
          clear hH10 hH9z CALL rd10 hrA hHA hrow hrd C10 hch yr gV10
          have END : Hid (∀ sets : List (Nat × Value), (∀ p ∈ sets, p.1 < 7) → sets.foldl (fun l p => l.set p.1 p.2) [.int .u32 0, .int .u32 0, .int .u8 0, .int .u8 0, .bool false, .bool false, .bool false] = relCells big a b →
              (fun W : World => Hid (W.heap[w6.heap.size + 1]? = some (.cells (relRow big sd (k + 1) ++ zerosL (n - (k + 1))).toArray 107 (0, 0))) ∧ Hid (Rdr W (.iface 105 (.pointer (some ⟨w6.heap.size, 0, none⟩))) w6.heap.size (fun x => ∃ a, A6 = some a ∧ a.block = x) sd (8 * (k + 1))) ∧ Hid (Chg (fun x => x = w6.heap.size + 1 ∨ x = w6.heap.size) w9 W)) (sets.foldl (fun w p => w.setCell ⟨w6.heap.size + 1, k * 7 + p.1, none⟩ p.2) w10)) := Lib.hid (fun sets hin hf => by
            obtain ⟨g1, g2⟩ := row_sets (R := w6.heap.size + 1) hO.out sets [.int .u32 0, .int .u32 0, .int .u8 0, .int .u8 0, .bool false, .bool false, .bool false] w10 hin hr10.out
            rw [hf, ← List.append_assoc, ← hrs.out] at g1
            exact ⟨Lib.hid g1, Lib.hid (rd10'.out.chg g2 (by omega) (fun x hx e => by have := hDlt.out x hx; omega)), Lib.hid (C10'.out.trans (g2.mono fun x _ e => .inl (.inl e)))⟩)
          clear hr10 rd10' C10' hDlt hrs hO hps
          by_cases hsc : 2147483648 ≤ a
          · have m31 : bits .and .u32 (a : Int) 2147483648 = 2147483648 := by
              have := and_bit a 31 hal (by omega)
              rw [bit31 a hal, decide_eq_true hsc, if_pos rfl] at this
              exact this
            have m24 : bits .and .u32 (a : Int) 16777215 = ((a % 16777216 : Nat) : Int) := and_mask a 24 hal (by omega)
            have m30 : bits .and .u32 (a : Int) 1073741824 = ((if a.testBit 30 then 1073741824 else 0 : Nat) : Int) := and_bit a 30 hal (by omega)
            have n24 : bits .and .u32 ((a : Int) / 16777216) 15 = ((a / 16777216 % 16 : Nat) : Int) := and_mask (a / 16777216) 4 (by omega) (by omega)
            have n28 : bits .and .u32 ((a : Int) / 268435456) 3 = ((a / 268435456 % 4 : Nat) : Int) := and_mask (a / 268435456) 2 (by omega) (by omega)
            go_wp2
            go_roundw
            case rel =>
              obtain ⟨x1, x2, x3⟩ := END.out [(0, .int .u32 ((a : Int) % 16777216)), (2, .int .u8 ((a : Int) / 16777216 % 16)), (3, .int .u8 ((a : Int) / 268435456 % 4)), (4, .bool (((if a.testBit 30 = true then 1073741824 else 0 : Nat) : Int) != 0)), (1, .int .u32 (b : Int)), (6, .bool true)] (by simp) (by rw [bool_bit _ _ (by omega)]; unfold relCells; rw [if_pos hsc]; rfl)
              exact ⟨k + 1, by omega, by go_num, x1, x2, x3⟩
            case measure => simp [intOf]; omega
          · have m31 : bits .and .u32 (a : Int) 2147483648 = 0 := by
              have := and_bit a 31 hal (by omega)
              rw [bit31 a hal, decide_eq_false hsc, if_neg (by decide)] at this
              exact this
            cases big with
            | true =>
              have n7 : bits .and .u32 (b : Int) 128 = ((if b.testBit 7 then 128 else 0 : Nat) : Int) := and_bit b 7 hbl (by omega)
              have n4 : bits .and .u32 (b : Int) 16 = ((if b.testBit 4 then 16 else 0 : Nat) : Int) := and_bit b 4 hbl (by omega)
              have n0 : bits .and .u32 (b : Int) 15 = ((b % 16 : Nat) : Int) := and_mask b 4 hbl (by omega)
              have n5 : bits .and .u32 ((b : Int) / 32) 3 = ((b / 32 % 4 : Nat) : Int) := and_mask (b / 32) 2 (by omega) (by omega)
              go_wp2
              go_roundw
              case rel =>
                obtain ⟨x1, x2, x3⟩ := END.out [(0, .int .u32 (a : Int)), (1, .int .u32 ((b : Int) / 256)), (4, .bool (((if b.testBit 7 = true then 128 else 0 : Nat) : Int) != 0)), (3, .int .u8 ((b : Int) / 32 % 4)), (5, .bool (((if b.testBit 4 = true then 16 else 0 : Nat) : Int) != 0)), (2, .int .u8 ((b : Int) % 16))] (by simp) (by rw [bool_bit _ _ (by omega), bool_bit _ _ (by omega)]; unfold relCells; rw [if_neg hsc]; rfl)
                exact ⟨k + 1, by omega, by go_num, x1, x2, x3⟩
              case measure => simp [intOf]; omega
            | false =>
              have n24 : bits .and .u32 (b : Int) 16777216 = ((if b.testBit 24 then 16777216 else 0 : Nat) : Int) := and_bit b 24 hbl (by omega)
              have n27 : bits .and .u32 (b : Int) 134217728 = ((if b.testBit 27 then 134217728 else 0 : Nat) : Int) := and_bit b 27 hbl (by omega)
              have n0 : bits .and .u32 (b : Int) 16777215 = ((b % 16777216 : Nat) : Int) := and_mask b 24 hbl (by omega)
              have n25 : bits .and .u32 ((b : Int) / 33554432) 3 = ((b / 33554432 % 4 : Nat) : Int) := and_mask (b / 33554432) 2 (by omega) (by omega)
              have n28 : bits .and .u32 ((b : Int) / 268435456) 15 = ((b / 268435456 % 16 : Nat) : Int) := and_mask (b / 268435456) 4 (by omega) (by omega)
              go_wp2
              go_roundw
              case rel =>
                obtain ⟨x1, x2, x3⟩ := END.out [(0, .int .u32 (a : Int)), (1, .int .u32 ((b : Int) % 16777216)), (4, .bool (((if b.testBit 24 = true then 16777216 else 0 : Nat) : Int) != 0)), (3, .int .u8 ((b : Int) / 33554432 % 4)), (5, .bool (((if b.testBit 27 = true then 134217728 else 0 : Nat) : Int) != 0)), (2, .int .u8 ((b : Int) / 268435456 % 16))] (by simp) (by rw [bool_bit _ _ (by omega), bool_bit _ _ (by omega)]; unfold relCells; rw [if_neg hsc]; rfl)
                exact ⟨k + 1, by omega, by go_num, x1, x2, x3⟩
              case measure => simp [intOf]; omega
        · obtain rfl : k = n := by omega
          rw [Nat.sub_self, zerosL, List.append_nil, hrels.out] at hrow
          have hfin : Hid (PushPost F H M big l (fun sv => [h0, h1, h2, h3, h4, h5, h6, .int .u8 (ordn big), ld, sv, st, ds]) (fun rv ra sr => [nm, sg, ad, .int .u64 size, .int .u32 off, al, .int .u32 reloff, .int .u32 k, fl, rv, ra, sr]) off size reloff k m base secs (fun k => k = F ∨ k = H ∨ sv.ownBlock = some k) w (.returned .nilIface) wr) := Lib.hid ⟨C9.out.trans (hch.out.mono (fun x _ e => .inr (by rcases e with e | e <;> omega))),
            .inl ⟨.inl hle, rfl, _, .slice (some ⟨w6.heap.size + 1, 0, none⟩) k k, w2.heap.size, Lib.hid (hch.out.row F9.out (fun e => by rcases e with e | e <;> omega)), Lib.hid (owns_chg own9.out hch.out (fun x hx e => by have := hsl5.out x hx; rcases e with e | e <;> omega)), Lib.hid hHr, Lib.hid (hch.out.row S9.out (fun e => by rcases e with e | e <;> omega)), hz2', Lib.hid (owns_whole hrow.out (by omega) (relRow_len _ _ _) (by simp only [maxLen]; omega))⟩⟩
          clear hrow hrd hch F9 own9 S9 C9
          go_wp2
          go_ret
          exact hfin.out
    · have CALL : Hid (∀ q, Calls Tryd.prog 36 #[.iface 105 (.pointer (some ⟨M, 0, none⟩)), .int .u64 (8 * n : Nat), .int .i64 reloff] (w5.drewN q) fun e w' => (∃ T x, e = .returned (.tuple #[.slice none 0 0, .iface T x])) ∧ Below w5.heap.size w5 w') := Lib.hid (fun q => (readDataAt_bad M D l reloff (8 * n) (w5.drewN q) TE TU vE vU (by exact E5) (by show 3 ≤ w5.heap.size; omega) (by omega) hreloff (by exact M5) (by omega) (by omega)).mono fun e w' ⟨h, b⟩ => ⟨h, ⟨b.os, b.tape, b.output, b.size, b.block⟩⟩)
      go_wp2_with fail
      rw [← e5]
      clear e5
      go_region_held3 (fun w' => w'.cell? ⟨H, 7, none⟩ = some (.int .u32 n) ∧ w'.cell? ⟨H, 6, none⟩ = some (.int .u32 reloff))
        (first | exact ⟨t7, t6⟩ | exact K6.out | go_keep) (first | (go_at_call 36; refine (CALL.out 1).mono ?_; rintro e w6 ⟨⟨T6, x6, rfl⟩, b6⟩; have K6 : Hid (w6.cell? ⟨H, 7, none⟩ = some (.int .u32 n) ∧ w6.cell? ⟨H, 6, none⟩ = some (.int .u32 reloff)) := Lib.hid ⟨(b6.cell (p := ⟨H, 7, none⟩) hHlt5).trans t7, (b6.cell (p := ⟨H, 6, none⟩) hHlt5).trans t6⟩))
      have hfin : Hid (PushPost F H M big l (fun sv => [h0, h1, h2, h3, h4, h5, h6, .int .u8 (ordn big), ld, sv, st, ds]) (fun rv ra sr => [nm, sg, ad, .int .u64 size, .int .u32 off, al, .int .u32 reloff, .int .u32 n, fl, rv, ra, sr]) off size reloff n m base secs (fun k => k = F ∨ k = H ∨ sv.ownBlock = some k) w (.returned (.iface T6 x6)) w6) := Lib.hid ⟨C5.out.trans (Chg.of_below b6 (fun x _ h => .inr (by omega))), .inr ⟨by omega, by omega, Lib.hid ((b6.cell (p := ⟨H, 9, none⟩) hHlt5).trans (World.cell?_of_row (l := [nm, sg, ad, .int .u64 size, .int .u32 off, al, .int .u32 reloff, .int .u32 n, fl, .slice none 0 0, .iface 101 (.pointer (some ⟨w2.heap.size, 0, none⟩)), .pointer (some ⟨w2.heap.size, 0, none⟩)]) hH5.out 9 _ rfl)), _, _, rfl⟩⟩
      clear b6 K6 CALL
      go_wp2
      go_ret
      exact hfin.out
end Go.Proofs.YtmgmmdhaklokjaaDoor
