/-
  The reference's symbols without the auxiliary ones; the walk of the law FnPePlain.
-/
import Derived.Test.YtoobkbnhfkfoaaaPePlain4
import Derived.Test.YtoobkbnhfkfoaaaPeNameLaw
namespace Go.Proofs.Ytoobkbnhfkfoaaa
set_option linter.unusedVariables false
set_option linter.unusedSimpArgs false
open Go Go.RowKit
attribute [local go_sem ↓] Go.wp_at_zero Go.wp_at_succ

/-- The places so far behind k steps of the reference. -/
def PlainAt (a : Nat → Nat) (n k : Nat) (acc : List Nat) : Prop := (k ≤ n ∧ rem a k = (acc, 0)) ∨ (n < k ∧ rem a n = (acc, k - n))
theorem PlainAt.step {a : Nat → Nat} {n k : Nat} {acc : List Nat} (h : PlainAt a n k acc) (hk : k < n) : PlainAt a n (k + (1 + a k)) (acc ++ [k]) := by
  rcases h with ⟨-, h⟩ | ⟨h, -⟩
  · have h1 := rem_zero h
    by_cases hn : k + (1 + a k) ≤ n
    · refine .inl ⟨hn, ?_⟩
      have := rem_run a (k + 1) _ _ h1 (a k) (Nat.le_refl _)
      rw [← Nat.add_assoc, this]
      simp
    · refine .inr ⟨by omega, ?_⟩
      have := rem_run a (k + 1) _ _ h1 (n - (k + 1)) (by omega)
      rw [show k + 1 + (n - (k + 1)) = n by omega] at this
      rw [this]
      congr 1
      omega
  · omega
theorem PlainAt.fin {a : Nat → Nat} {n k : Nat} {acc : List Nat} (h : PlainAt a n k acc) (hk : n ≤ k) : acc = (rem a n).1 := by
  rcases h with ⟨h1, h2⟩ | ⟨h1, h2⟩
  · obtain rfl : k = n := by omega
    rw [h2]
  · rw [h2]
theorem PlainAt.len {a : Nat → Nat} {n k : Nat} {acc : List Nat} (h : PlainAt a n k acc) : acc.length ≤ n := by
  rcases h with ⟨h1, h2⟩ | ⟨h1, h2⟩
  · have := rem_len a k
    rw [h2] at this
    exact Nat.le_trans this h1
  · have := rem_len a n
    rw [h2] at this
    exact this

/-- A bool is given back. -/
def SomeBool (e : Ending) : Prop := ∃ b, e = .returned (.bool b)
/-- A place as a cell of []int holds it. -/
def niv (x : Nat) : Value := .int .i64 (x : Int)
set_option maxRecDepth 100000 in
set_option maxHeartbeats 1000000 in
theorem specWhole (A : Option Addr) (n cap : Nat) (a : Nat → Nat) (w : World) (hn : n ≤ 300) (ha : Hid (∀ k, a k < 256))
    (hcell : Hid (∀ k, k < n → ∃ g, A = some ⟨g, 0, none⟩ ∧ w.cell? ⟨g, k * 6 + 5, none⟩ = some (.int .u8 (a k : Int)))) :
    Calls Try.prog 5 #[.slice A n cap] w fun e w' => SomeBool e ∧ w = w' := by
  go_enter Try.func5, Try.ntmps5
  go_wp2
  go_loopw [3] (fun i wr => wr = w ∧ ∃ k : Nat, k ≤ n + 256 ∧ i = .int .i64 k) (fun i _ => n + 256 - (intOf i).toNat)
  case atStart => exact ⟨rfl, 0, Nat.zero_le _, rfl⟩
  case round =>
    obtain ⟨rfl, k, hk, rfl⟩ := hrel
    by_cases hkn : k < n
    · obtain ⟨g, rfl, hc⟩ := hcell.out k hkn
      have hlt := ha.out k
      generalize a k = x at *
      have hi0 : (0 : Int) ≤ (k : Int) := by omega
      have hi1 : (k : Int) < (n : Int) := by omega
      have q1 : IntKind.i64.wrap (x : Int) = (x : Int) := IntWalk.i64_in _ (by omega)
      have q2 : IntKind.i64.wrap (1 + (x : Int)) = 1 + (x : Int) := IntWalk.i64_in _ (by omega)
      have q3 : IntKind.i64.wrap ((k : Int) + (1 + (x : Int))) = (k : Int) + (1 + (x : Int)) := IntWalk.i64_in _ (by omega)
      go_wp2
      go_roundw
      case rel => exact ⟨by first | trivial | rfl, k + (1 + x), by omega, by go_num⟩
      case measure => simp [intOf]; omega
    · have hi1 : ¬ ((k : Int) < (n : Int)) := by omega
      go_wp2
      go_ret
      exact ⟨⟨_, rfl⟩, rfl⟩

set_option maxRecDepth 100000 in
set_option maxHeartbeats 1000000 in
theorem specPlain (A : Option Addr) (n cap : Nat) (a : Nat → Nat) (w : World) (hn : n ≤ 300) (ha : Hid (∀ k, a k < 256))
    (hcell : Hid (∀ k, k < n → ∃ g, A = some ⟨g, 0, none⟩ ∧ g < w.heap.size ∧ w.cell? ⟨g, k * 6 + 5, none⟩ = some (.int .u8 (a k : Int)))) :
    Calls Try.prog 7 #[.slice A n cap] w fun e w' => (∃ v, e = .returned v ∧ Hid (w'.ownsRow w.heap.size 3 1 v (rem a n).1.length ((rem a n).1.map niv))) ∧ Below w.heap.size w w' := by
  obtain ⟨i0, hi, hz0, hz1, hz2⟩ := info_parts Try.infoInt
  go_enter Try.func7, Try.ntmps7
  go_wp2
  go_loopw [3, 4] (fun v i wr => ∃ (k : Nat) (acc : List Nat), k ≤ n + 256 ∧ i = .int .i64 k ∧ Hid (PlainAt a n k acc) ∧ Hid (wr.ownsRow w.heap.size 3 1 v acc.length (acc.map niv)) ∧ Hid (Below w.heap.size w wr)) (fun _ i _ => n + 256 - (intOf i).toNat)
  case atStart => exact ⟨0, [], Nat.zero_le _, rfl, Lib.hid (.inl ⟨Nat.zero_le _, rfl⟩), Lib.hid (World.ownsRow_made w #[] 0 (Nat.le_refl _) (by simp [maxLen]) (by simp)), Lib.hid ((Below.refl _ _).alloc (Nat.le_refl _) _)⟩
  case round =>
    obtain ⟨k, acc, hk, rfl, hP, hown, hbl⟩ := hrel
    have hz := hbl.out.size
    by_cases hkn : k < n
    · obtain ⟨g, rfl, hglt, hc0⟩ := hcell.out k hkn
      have hlt := ha.out k
      have hP1 := Lib.hid (hP.out.step hkn)
      have hal := hP.out.len
      have hi0 : (0 : Int) ≤ (k : Int) := by omega
      have hi1 : (k : Int) < (n : Int) := by omega
      have hc2 : ∀ w', Below wr.heap.size wr w' → w'.cell? ⟨g, k * 6 + 5, none⟩ = some (.int .u8 (a k : Int)) := fun w' hb => (hb.cell (p := ⟨g, k * 6 + 5, none⟩) (by simp only; omega)).trans ((hbl.out.cell (p := ⟨g, k * 6 + 5, none⟩) hglt).trans hc0)
      have hgne : Hid (∀ q, u3.ownBlock = some q → w.heap.size ≤ q) := Lib.hid (fun q hq => (hown.out.lt q hq).1)
      generalize hx : a k = x at *
      replace hx := Lib.hid hx
      have q1 : IntKind.i64.wrap (x : Int) = (x : Int) := IntWalk.i64_in _ (by omega)
      have q2 : IntKind.i64.wrap (1 + (x : Int)) = 1 + (x : Int) := IntWalk.i64_in _ (by omega)
      have q3 : IntKind.i64.wrap ((k : Int) + (1 + (x : Int))) = (k : Int) + (1 + (x : Int)) := IntWalk.i64_in _ (by omega)
      replace hc2 := Lib.hid hc2
      go_wp2_with (at_builtin; refine Stop.mk ?_)
      refine Stop.go ?_
      refine wpList_append_any rfl (.tmp 19) (.tmp 21) 31 rfl w.heap.size 3 i0 (.int .i64 0) 1 8 Try.underlying31 hi hz0 hz1 hz2 rfl (by omega) _ acc.length _ rfl (hown.out.alloc _) (some ⟨wr.heap.size, 0, none⟩) 1 1 [niv k] rfl (RC.one (World.cell?_alloc_new _ _ _ _)) (List.all_eq_true.1 rfl) (by simp only [maxLen]; omega) (by omega) (by simp; omega) ?_
      intro v1 w1 hown1 hg1 hat1
      have hb1 := Lib.hid ((hbl.out.alloc hz (.cells #[niv k] 3)).grown hg1 (by simp; omega) hgne.out)
      have hc3 : w1.cell? ⟨g, k * 6 + 5, none⟩ = some (.int .u8 (x : Int)) := (hb1.out.cell (p := ⟨g, k * 6 + 5, none⟩) hglt).trans hc0
      have e1 : acc.map niv ++ [niv k] = (acc ++ [k]).map niv := by simp
      have e2 : acc.length + 1 = (acc ++ [k]).length := by simp
      rw [e1, e2] at hown1
      replace hown1 := Lib.hid hown1
      clear hg1 hat1 hown hbl e1 e2 hc2 hc0
      go_wp2
      go_roundw
      case rel => exact ⟨k + (1 + x), acc ++ [k], by omega, by go_num, hP1, hown1, hb1⟩
      case measure => simp [intOf]; omega
    · have hfin := hP.out.fin (Nat.le_of_not_lt hkn)
      subst hfin
      have hi1 : ¬ ((k : Int) < (n : Int)) := by omega
      go_wp2
      go_ret
      exact ⟨⟨_, rfl, hown⟩, hbl.out⟩

/-- What the law knows of PePlain's answer. -/
def GotOk (l t : List UInt8) (n : Nat) (w : World) (g : Value) (ok : Bool) (w' : World) : Prop :=
  (ok = true ∧ (∀ k ∈ (rem (auxAt l) n).1, (symRes (csAt l k).name t).2 = true) ∧ ∃ vs, w'.ownsRow w.heap.size 41 5 g (rem (auxAt l) n).1.length vs ∧ Recs (fun _ vs c => vs = plainCells t c) w' 5 (rem (auxAt l) n).1.length vs ((rem (auxAt l) n).1.map (csAt l))) ∨
  (ok = false ∧ (∃ k ∈ (rem (auxAt l) n).1, (symRes (csAt l k).name t).2 = false))

set_option maxRecDepth 100000 in
set_option maxHeartbeats 4000000 in
theorem lawPlain (a0 : Option Addr) (len0 cap0 : Nat) (l : List UInt8) (a1 : Option Addr) (len1 cap1 : Nat) (t : List UInt8) (w : World) (hN : Hid (len0 = l.length)) (hr : RB w a0 l) (hc : len0 ≤ cap0) (hT : Hid (len1 = t.length)) (hrt : RB w a1 t) (hct : len1 ≤ cap1) (hb : len0 ≤ 5400) (hb1 : len1 ≤ 1048576) :
    Calls Try.prog 3 #[.slice a0 len0 cap0, .slice a1 len1 cap1] w fun e w' => e = .returned (.bool true) ∧ Below w.heap.size w w' := by
  obtain ⟨i0, hi, hz0, hz1, hz2⟩ := info_parts Try.infoPlain
  obtain ⟨N, hNN⟩ : ∃ N, N = len0 / 18 := ⟨_, rfl⟩
  have hN300 : N ≤ 300 := by omega
  have hlen : Hid (18 * N ≤ l.length) := Lib.hid (by have := hN.out; omega)
  replace hNN := Lib.hid hNN
  go_enter Try.func3, Try.ntmps3
  go_wp2_with fail
  refine (coffsOf_any a0 l len0 cap0 N w hN hc hb hNN (Lib.hid hr)).mono ?_
  rintro e w1 ⟨⟨v1, vs1, v2, vs2, rfl, own1, rec1, own2, rec2⟩, b1⟩
  obtain ⟨Y, yc, rfl, -, -, hy⟩ := rec_at own2.out rec2.out (by omega)
  have hcellY : Hid (∀ k, k < N → ∃ g A kk, Y = some ⟨g, 0, none⟩ ∧ w.heap.size ≤ g ∧ g < w1.heap.size ∧ 8 ≤ kk ∧ (csAt l k).name.length = 8 ∧ RB w A (csAt l k).name ∧ ∀ i u, ((.slice A 8 kk :: symTail (csAt l k)) : List Value)[i]? = some u → w1.cell? ⟨g, k * 6 + i, none⟩ = some u) := Lib.hid fun k hk => by
    obtain ⟨g, cs, x, hY, hge, hlt, hx, hl, ⟨A, kk, rfl, h8, hn8, hR⟩, hcl⟩ := hy k hk
    rw [coffsL_at l N k hk] at hx
    obtain rfl := Option.some.inj hx
    exact ⟨g, A, kk, hY, hge, hlt, h8, hn8, hR, hcl⟩
  have T1 := hrt.later b1
  have CALL : Hid (Calls Try.prog 6 #[v1, .slice a1 len1 cap1] w1 fun e w' => PlainPost l t N w1 e w' ∧ Below w1.heap.size w1 w') := Lib.hid (by
    by_cases h0 : N = 0
    · subst h0
      obtain ⟨A, c, rfl, -, -, -⟩ := rec_at own1.out rec1.out (by omega)
      exact implPlain_nil A c l a1 t len1 cap1 w1 T1 hT (by omega)
    · obtain ⟨g, cap, rfl, hcap, hge, hlt, hcl⟩ := owns_cellsN own1.out (by omega)
      exact implPlain_some g N cap l vs1 a1 t len1 cap1 w1 (by omega) hN300 hlen T1 hT (by omega) hlt (Lib.hid hcl) rec1)
  have hau : Hid (∀ k, auxAt l k < 256) := Lib.hid (auxAt_lt l)
  have hau2 : ∀ k, (csAt l k).aux = (auxAt l k : Int) := fun k => rfl
  have hzA := b1.size
  replace b1 := Lib.hid b1
  clear own1 own2 rec1 rec2 hy hNN
  go_wp2_with fail
  refine (specWhole Y N yc (auxAt l) w1 hN300 hau (Lib.hid fun k hk => by
    obtain ⟨g, A, kk, hY, -, -, -, -, -, hcl⟩ := hcellY.out k hk
    exact ⟨g, hY, hcl 5 _ rfl⟩)).mono ?_
  rintro e w' ⟨⟨b, rfl⟩, rfl⟩
  cases b with
  | false =>
    clear hcellY CALL hau2 T1
    go_wp2
    go_ret
    exact ⟨rfl, b1.out⟩
  | true =>
    go_wp2_with fail
    refine CALL.out.mono ?_
    rintro e w2 ⟨hp, b2⟩
    obtain ⟨got, ok, rfl, hgot⟩ : ∃ got ok, e = .returned (.tuple #[got, .bool ok]) ∧ GotOk l t N w1 got ok w2 := by
      rcases hp with ⟨hall, v, vs, rfl, h1, h2⟩ | ⟨hbad, rfl⟩
      · exact ⟨v, true, rfl, .inl ⟨rfl, hall, vs, h1.out, h2.out⟩⟩
      · exact ⟨_, false, rfl, .inr ⟨rfl, hbad⟩⟩
    replace hgot := Lib.hid hgot
    have b12 := Lib.hid (b1.out.trans (b2.mono hzA))
    have hzB := b12.out.size
    have hz12 := b2.size
    have hY2 : Hid (∀ k, k < N → ∃ g, Y = some ⟨g, 0, none⟩ ∧ g < (w2.alloc (.cells #[] 41)).heap.size ∧ (w2.alloc (.cells #[] 41)).cell? ⟨g, k * 6 + 5, none⟩ = some (.int .u8 (auxAt l k : Int))) := Lib.hid fun k hk => by
      obtain ⟨g, A, kk, hY, -, hlt, -, -, -, hcl⟩ := hcellY.out k hk
      exact ⟨g, hY, by simp; omega, ((b2.alloc hz12 _).cell (p := ⟨g, k * 6 + 5, none⟩) hlt).trans (hcl 5 _ rfl)⟩
    clear CALL hp
    replace b2 := Lib.hid b2
    go_wp2_with fail
    refine (specPlain Y N yc (auxAt l) _ hN300 hau hY2).mono ?_
    rintro e w3 ⟨⟨kv, rfl, ownk⟩, b3⟩
    have hzP := b3.size
    have own0 := owns_later (World.ownsRow_made (base := w2.heap.size) (e := 41) (size := 5) w2 #[] 0 (Nat.le_refl _) (by simp [maxLen]) rfl) b3
    have bw := Lib.hid (((Below.refl w2.heap.size w2).alloc (Nat.le_refl _) (.cells #[] 41)).trans (b3.mono (by simp)))
    have hPlt := Lib.hid (rem_lt (auxAt l) N)
    have hPle := Nat.le_trans (rem_len (auxAt l) N) hN300
    obtain ⟨K, kc, rfl, hRK, -, -⟩ := RT.of_owns ownk.out
    replace hRK := Lib.hid hRK
    replace own0 := Lib.hid own0
    unfold GotOk at hgot
    clear b3 ownk hY2
    generalize (rem (auxAt l) N).1 = P at *
    obtain ⟨m, hm⟩ : ∃ m, P.length = m := ⟨_, rfl⟩
    rw [hm] at hgot hRK hPle ⊢
    replace hm := Lib.hid hm
    go_wp2
    go_loopw [9, 52] (fun v i wr => ∃ (j : Nat) (vs : List Value), j ≤ m ∧ i = .int .i64 j ∧ Hid (wr.ownsRow w2.heap.size 41 5 v j vs) ∧ Hid (Recs (fun _ vs c => vs = plainCells t c) wr 5 j vs ((P.map (csAt l)).take j)) ∧ Hid (∀ k ∈ P.take j, (symRes (csAt l k).name t).2 = true) ∧ Hid (Keeps 41 w3 wr) ∧ Hid (Below w2.heap.size w2 wr)) (fun _ i _ => m - (intOf i).toNat)
    case atStart => exact ⟨0, [], Nat.zero_le _, rfl, own0, Lib.hid (Recs.nil _ _ _), Lib.hid (fun k hk => by simp at hk), Lib.hid (Keeps.refl _ _), bw⟩
    case round =>
      obtain ⟨j, vs, hj, rfl, hown, hrec, hok, hkp, hbl⟩ := hrel
      have hz := hbl.out.size
      by_cases hjm : j < m
      · have hjP : j < P.length := by rw [hm.out]; exact hjm
        obtain ⟨p, hp⟩ : ∃ p, P[j]? = some p := ⟨_, List.getElem?_eq_getElem hjP⟩
        have hpN : p < N := hPlt.out p (List.mem_of_getElem? hp)
        have hpm : Hid (p ∈ P) := Lib.hid (List.mem_of_getElem? hp)
        have htk : Hid ((P.map (csAt l)).take (j + 1) = (P.map (csAt l)).take j ++ [csAt l p]) := Lib.hid (by rw [List.take_add_one]; simp [hp])
        have htk2 : Hid (P.take (j + 1) = P.take j ++ [p]) := Lib.hid (by rw [List.take_add_one]; simp [hp])
        obtain ⟨gK, oK, rfl, cK⟩ := (hRK.out.keeps hkp.out (by decide)).at (j := j) (u := niv p) (by simp [hp])
        obtain ⟨g, A, kk, rfl, hge, hglt, hk8, h8, hR, hcl⟩ := hcellY.out p hpN
        obtain ⟨x, hx⟩ : ∃ x, csAt l p = x := ⟨_, rfl⟩
        rw [hx] at htk h8 hR hcl
        replace hx := Lib.hid hx
        obtain ⟨nm, x1, x2, x3, x4, x5⟩ := x
        have hc := fun (i : Nat) (u : Value) (h : ((.slice A 8 kk :: symTail ⟨nm, x1, x2, x3, x4, x5⟩) : List Value)[i]? = some u) => (hbl.out.cell (p := ⟨g, p * 6 + i, none⟩) (by simp only; omega)).trans ((b2.out.cell (p := ⟨g, p * 6 + i, none⟩) hglt).trans (hcl i u h))
        have d0 : wr.cell? ⟨g, p * 6, none⟩ = some (.slice A 8 kk) := hc 0 _ rfl
        have d1 : wr.cell? ⟨g, p * 6 + 1, none⟩ = some (.int .u32 x1) := hc 1 _ rfl
        have d2 : wr.cell? ⟨g, p * 6 + 2, none⟩ = some (.int .i16 x2) := hc 2 _ rfl
        have d3 : wr.cell? ⟨g, p * 6 + 3, none⟩ = some (.int .u16 x3) := hc 3 _ rfl
        have d4 : wr.cell? ⟨g, p * 6 + 4, none⟩ = some (.int .u8 x4) := hc 4 _ rfl
        have hji0 : (0 : Int) ≤ (j : Int) := by omega
        have hji1 : (j : Int) < (m : Int) := by omega
        have hpi0 : (0 : Int) ≤ (p : Int) := by omega
        have hpi1 : (p : Int) < (N : Int) := by omega
        have bwr : Below w.heap.size w wr := b12.out.trans (hbl.out.mono hzB)
        have hRr := hR.later bwr
        have hTr := hrt.later bwr
        have CALL := Lib.hid (specName A kk nm a1 t len1 cap1 wr h8.symm hk8 hRr hT hct (by omega) hTr)
        have hgw : g < wr.heap.size := by omega
        have hpneq : some g ≠ u9.ownBlock := fun e => by have := (hown.out.lt g e.symm).1; omega
        have hge9 : Hid (∀ q, u9.ownBlock = some q → w2.heap.size ≤ q) := Lib.hid (fun q hq => (hown.out.lt q hq).1)
        simp only [niv] at cK
        clear hc hcl hRr hTr hR hp bwr
        replace h8 := Lib.hid h8
        have hpc : Hid (plainCells t ⟨nm, x1, x2, x3, x4, x5⟩ = [.string ⟨(symRes nm t).1.toArray⟩, .int .u32 x1, .int .i16 x2, .int .u16 x3, .int .u8 x4]) := Lib.hid rfl
        have hsy : Hid ((symRes (csAt l p).name t).2 = (symRes nm t).2) := Lib.hid (by rw [hx.out])
        generalize (symRes nm t).1 = nmx at *
        generalize (symRes nm t).2 = okx at *
        cases okx with
        | true =>
          go_wp2_with fail
          refine CALL.out.mono ?_
          rintro e w' ⟨rfl, rfl⟩
          go_wp2_with fail
          go_region_held3 (fun w' => w'.cell? ⟨g, p * 6 + 1, none⟩ = some (.int .u32 x1) ∧ w'.cell? ⟨g, p * 6 + 2, none⟩ = some (.int .i16 x2) ∧ w'.cell? ⟨g, p * 6 + 3, none⟩ = some (.int .u16 x3) ∧ w'.cell? ⟨g, p * 6 + 4, none⟩ = some (.int .u8 x4))
            (first | go_keep | exact K1.out)
            (first | (refine step_append_any (by rfl) (.tmp 70) (.tmp 93) 28 (by rfl) w2.heap.size 41 i0 _ 5 32 Try.underlying28 hi hz0 hz1 hz2 rfl (by omega) u9 j vs (by rfl) ((hown.out.alloc _).drew) (some ⟨wr.heap.size, 0, none⟩) 1 1 [.string ⟨nmx.toArray⟩, .int .u32 x1, .int .i16 x2, .int .u16 x3, .int .u8 x4] (by rfl) (rc_newN rfl rfl) (List.all_eq_true.1 rfl) (by simp only [maxLen]; omega) (by omega) (by simp; omega) ?_; intro v3 w4 own3 g3 at3; have K1 : Hid (w4.cell? ⟨g, p * 6 + 1, none⟩ = some (.int .u32 x1) ∧ w4.cell? ⟨g, p * 6 + 2, none⟩ = some (.int .i16 x2) ∧ w4.cell? ⟨g, p * 6 + 3, none⟩ = some (.int .u16 x3) ∧ w4.cell? ⟨g, p * 6 + 4, none⟩ = some (.int .u8 x4)) := Lib.hid ⟨g3.cell (((((Below.refl wr.heap.size wr).alloc (Nat.le_refl _) _).drew).cell (p := ⟨g, p * 6 + 1, none⟩) hgw).trans d1) hpneq, g3.cell (((((Below.refl wr.heap.size wr).alloc (Nat.le_refl _) _).drew).cell (p := ⟨g, p * 6 + 2, none⟩) hgw).trans d2) hpneq, g3.cell (((((Below.refl wr.heap.size wr).alloc (Nat.le_refl _) _).drew).cell (p := ⟨g, p * 6 + 3, none⟩) hgw).trans d3) hpneq, g3.cell (((((Below.refl wr.heap.size wr).alloc (Nat.le_refl _) _).drew).cell (p := ⟨g, p * 6 + 4, none⟩) hgw).trans d4) hpneq⟩))
          have hrec1 := Lib.hid ((hrec.out.mono (w' := w4) (fun c x h => h)).push (c := [.string ⟨nmx.toArray⟩, .int .u32 x1, .int .i16 x2, .int .u16 x3, .int .u8 x4]) (x := ⟨nm, x1, x2, x3, x4, x5⟩) rfl hpc.out.symm)
          rw [← htk.out] at hrec1
          have hb1 := Lib.hid ((((hbl.out.alloc hz (.cells #[.string ⟨nmx.toArray⟩, .int .u32 x1, .int .i16 x2, .int .u16 x3, .int .u8 x4] 41)).drew)).grown g3 (by simp; omega) hge9.out)
          have hk1 := Lib.hid (((hkp.out.alloc (.cells #[.string ⟨nmx.toArray⟩, .int .u32 x1, .int .i16 x2, .int .u16 x3, .int .u8 x4] 41)).drewN 1).trans (Keeps.of_grown ((hown.out.alloc (.cells #[.string ⟨nmx.toArray⟩, .int .u32 x1, .int .i16 x2, .int .u16 x3, .int .u8 x4] 41)).drew) g3))
          have hok1 : Hid (∀ k ∈ P.take (j + 1), (symRes (csAt l k).name t).2 = true) := Lib.hid (fun k hk => by
            rw [htk2.out] at hk
            rcases List.mem_append.1 hk with h | h
            · exact hok.out k h
            · have : k = p := by simpa using h
              subst this
              exact hsy.out)
          replace own3 := Lib.hid own3
          clear g3 at3 K1 hown hbl hrec hkp hok d0 d1 d2 d3 d4
          go_wp2
          go_roundw
          case rel => exact ⟨j + 1, _, by omega, by go_num, own3, hrec1, hok1, hk1, hb1⟩
          case measure => simp [intOf]; omega
        | false =>
          obtain rfl : ok = false := by
            rcases hgot.out with ⟨-, hall, -⟩ | ⟨h, -⟩
            · have := hall p hpm.out
              rw [hsy.out] at this
              cases this
            · exact h
          have hfin := b12.out.trans (hbl.out.mono hzB)
          clear hgot hbl b12
          replace hfin := Lib.hid hfin
          go_wp2_with fail
          refine CALL.out.mono ?_
          rintro e w' ⟨rfl, rfl⟩
          go_wp2
          go_ret
          exact ⟨rfl, hfin.out⟩
      · obtain rfl : j = m := by omega
        obtain ⟨rfl, -, vg, owng, recg⟩ : ok = true ∧ _ := by
          rcases hgot.out with h | ⟨-, k, hk, hbad⟩
          · exact h
          · have := hok.out k (by rw [List.take_of_length_le (Nat.le_of_eq hm.out)]; exact hk)
            rw [this] at hbad
            cases hbad
        obtain ⟨G, cg, rfl, -, -, hG⟩ := rec_at owng recg (by omega)
        obtain ⟨W, cw, rfl, -, -, hW⟩ := rec_at hown.out hrec.out (by omega)
        have hml : (P.map (csAt l)).length = j := by simp [hm.out]
        have hboth : Hid (∀ k, k < j → ∃ g1 g2 y0 y1 y2 y3 y4, G = some ⟨g1, 0, none⟩ ∧ W = some ⟨g2, 0, none⟩ ∧ ∀ i u, ([.string y0, .int .u32 y1, .int .i16 y2, .int .u16 y3, .int .u8 y4] : List Value)[i]? = some u → wr.cell? ⟨g1, k * 5 + i, none⟩ = some u ∧ wr.cell? ⟨g2, k * 5 + i, none⟩ = some u) := Lib.hid fun k hk => by
          obtain ⟨g1, cs1, x1, hG1, hge1, hlt1, hx1, hl1, rfl, hc1⟩ := hG k hk
          obtain ⟨g2, cs2, x2, hW2, hge2, hlt2, hx2, hl2, rfl, hc2⟩ := hW k hk
          rw [List.take_of_length_le (Nat.le_of_eq hml), hx1] at hx2
          obtain rfl := Option.some.inj hx2
          exact ⟨g1, g2, _, _, _, _, _, hG1, hW2, fun i u hu => ⟨(hbl.out.cell (p := ⟨g1, k * 5 + i, none⟩) hlt1).trans (hc1 i u hu), hc2 i u hu⟩⟩
        have hfin := Lib.hid (b12.out.trans (hbl.out.mono hzB))
        clear hgot hown hrec hG hW owng recg hok hkp hbl hml
        go_wp2
        go_loopw [107] (fun i ws => ∃ k q : Nat, k ≤ j ∧ i = .int .i64 k ∧ ws = wr.drewN q) (fun i _ => j - (intOf i).toNat)
        case atStart => exact ⟨0, 0, Nat.zero_le _, rfl, rfl⟩
        case round =>
          obtain ⟨k, q, hk, rfl, rfl⟩ := hrel
          by_cases hkj : k < j
          · obtain ⟨g1, g2, y0, y1, y2, y3, y4, rfl, rfl, hcc⟩ := hboth.out k hkj
            obtain ⟨p0, q0⟩ := hcc 0 _ rfl
            obtain ⟨p1, q1⟩ := hcc 1 _ rfl
            obtain ⟨p2, q2⟩ := hcc 2 _ rfl
            obtain ⟨p3, q3⟩ := hcc 3 _ rfl
            obtain ⟨p4, q4⟩ := hcc 4 _ rfl
            simp only [Nat.add_zero] at p0 q0
            have hki0 : (0 : Int) ≤ (k : Int) := by omega
            have hki1 : (k : Int) < (j : Int) := by omega
            clear hcc
            go_wp2
            go_quiet (fail)
            go_wp2
            go_roundw
            case rel => exact ⟨k + 1, _, by omega, by go_num, rfl⟩
            case measure => simp [intOf]; omega
          · obtain rfl : k = j := by omega
            go_wp2
            go_ret
            exact ⟨rfl, below_drewN hfin.out q⟩

set_option maxRecDepth 100000 in
set_option maxHeartbeats 1000000 in
theorem law_FnPePlain (a0 : Option Addr) (len0 cap0 : Nat) (z0 : List Int) (a1 : Option Addr) (len1 cap1 : Nat) (z1 : List Int) (w : World) (w0 : IsRow .u8 w a0 len0 cap0 z0) (w1 : IsRow .u8 w a1 len1 cap1 z1) :
    Calls Try.prog 3 #[.slice a0 len0 cap0, .slice a1 len1 cap1] w fun e w' => e = .returned (.bool true) ∧ Below w.heap.size w w' := by
  obtain ⟨l, hl, hr, hc, hm⟩ := w0.bytes
  obtain ⟨t, ht, hrt, hct, hmt⟩ := w1.bytes
  have hN := Lib.hid hl
  have hT := Lib.hid ht
  clear hl ht w0 w1 hm hmt
  by_cases hA : len0 ≤ 5400 ∧ len1 ≤ 1048576
  · exact lawPlain a0 len0 cap0 l a1 len1 cap1 t w hN hr hc hT hrt hct hA.1 hA.2
  · by_cases h1 : len0 ≤ 2147483647
    · by_cases h2 : len1 ≤ 2147483647
      · by_cases h3 : len0 ≤ 1048576
        · by_cases h4 : len1 ≤ 1048576
          · have h5 : (5400 : Int) < (len0 : Int) := by omega
            clear hA
            go_enter Try.func3, Try.ntmps3
            go_wp2
            go_ret
            exact ⟨rfl, Below.refl _ _⟩
          · have h5 : (1048576 : Int) < (len1 : Int) := by omega
            clear hA
            go_enter Try.func3, Try.ntmps3
            go_wp2
            go_ret
            exact ⟨rfl, Below.refl _ _⟩
        · have h5 : (1048576 : Int) < (len0 : Int) := by omega
          clear hA
          go_enter Try.func3, Try.ntmps3
          go_wp2
          go_ret
          exact ⟨rfl, Below.refl _ _⟩
      · have h5 : (2147483647 : Int) < (len1 : Int) := by omega
        clear hA
        go_enter Try.func3, Try.ntmps3
        go_wp2
        go_ret
        exact ⟨rfl, Below.refl _ _⟩
    · have h5 : (2147483647 : Int) < (len0 : Int) := by omega
      clear hA
      go_enter Try.func3, Try.ntmps3
      go_wp2
      go_ret
      exact ⟨rfl, Below.refl _ _⟩
end Go.Proofs.Ytoobkbnhfkfoaaa
