/-
  The reference's symbols of Mach-O: the contracts of Width, Symbols.
-/
import Derived.Test.YtmgmmdhaklokjaaDoorMSyms3
import Derived.Test.YtmgmmdhaklokjaaDoorFieldsOk
namespace Go.Proofs.YtmgmmdhaklokjaaDoor
set_option linter.unusedVariables false
set_option linter.unusedSimpArgs false
open Go Go.RowKit
attribute [local go_sem ↓] Go.wp_at_zero Go.wp_at_succ

theorem widthOf_take (ws : List Int) (k : Nat) (hk : k < ws.length) : widthOf (ws.take (k + 1)) = widthOf (ws.take k) + (ws[k]).natAbs := by
  induction ws generalizing k with
  | nil => simp at hk
  | cons x r ih =>
    cases k with
    | zero => simp [widthOf]
    | succ k =>
      have := ih k (by simpa using hk)
      simp only [List.take_succ_cons, widthOf, List.getElem_cons_succ]
      omega
theorem widthOf_le (ws : List Int) (h : ∀ x ∈ ws, -1000 ≤ x ∧ x ≤ 1000) : ∀ k, widthOf (ws.take k) ≤ 1000 * k := by
  intro k
  induction ws generalizing k with
  | nil => simp [widthOf]
  | cons x r ih =>
    cases k with
    | zero => simp [widthOf]
    | succ k =>
      have h1 := ih (fun y hy => h y (by simp [hy])) k
      have h2 := h x (by simp)
      simp only [List.take_succ_cons, widthOf]
      omega

set_option maxRecDepth 100000 in
set_option maxHeartbeats 1000000 in
theorem specWidth (A : Option Addr) (ws : List Int) (n c : Nat) (w : World) (hn : Hid (n = ws.length)) (hn1 : n ≤ 1000) (hws : Hid (∀ x ∈ ws, -1000 ≤ x ∧ x ≤ 1000)) (hW : Hid (RC w A 1 n (ws.map iv))) :
    Calls Tryd.prog 18 #[.slice A n c] w fun e w' => e = .returned (.int .i64 (widthOf ws : Nat)) ∧ w = w' := by
  go_enter Tryd.func18, Tryd.ntmps18
  go_wp2
  go_loop [3, 8] (fun a i => ∃ k : Nat, k ≤ n ∧ i = .int .i64 k ∧ a = .int .i64 (widthOf (ws.take k) : Nat)) (fun _ i => n - (intOf i).toNat)
  case atStart => exact ⟨0, Nat.zero_le _, rfl, rfl⟩
  case round =>
    obtain ⟨k, hk, rfl, rfl⟩ := hrel
    by_cases hkn : k < n
    · have hl : k < ws.length := by have := hn.out; omega
      obtain ⟨b1, o1, rfl, c1⟩ := hW.out.get k (.int .i64 (ws[k] : Int)) (by simp [hl, iv])
      have hx := hws.out ws[k] (List.getElem_mem hl)
      have hle := widthOf_le ws hws.out k
      have ht := Lib.hid (widthOf_take ws k hl)
      generalize ws[k] = x at *
      generalize widthOf (ws.take k) = a at *
      have hki : (k : Int) < (n : Int) := by omega
      have hki0 : (0 : Int) ≤ (k : Int) := by omega
      have q1 : IntKind.i64.wrap (-x) = -x := IntWalk.i64_in _ (by omega)
      obtain ⟨m, hm⟩ : ∃ m, x.natAbs = m := ⟨_, rfl⟩
      rw [hm] at ht
      have q2 : max x (-x) = (m : Int) := by omega
      have q3 : IntKind.i64.wrap ((a : Int) + (m : Int)) = (a : Int) + (m : Int) := IntWalk.i64_in _ (by omega)
      clear hl hm
      go_wp2
      go_round
      case rel => exact ⟨k + 1, by omega, by go_num, by rw [ht.out]; go_num⟩
      case measure => simp [intOf]; omega
    · obtain rfl : k = n := by omega
      have hf : Hid (widthOf (ws.take k) = widthOf ws) := Lib.hid (by rw [List.take_of_length_le (by have := hn.out; omega)])
      go_wp2
      go_ret
      exact ⟨by rw [← hf.out]; rfl, rfl⟩

/-- What the reference's Symbols gives back. -/
def SPost (wide big : Bool) (s t : List UInt8) (n : Nat) (w : World) (e : Ending) (w' : World) : Prop :=
  ((∀ k, k < n → mGood wide big s t k = true) ∧ ∃ v, e = .returned (.tuple #[v, .bool true]) ∧ Hid (w'.ownsRow w.heap.size 34 5 v n (mRow wide big s t n))) ∨
  ((∃ k, k < n ∧ mGood wide big s t k = false) ∧ e = .returned (.tuple #[.slice none 0 0, .bool false]))
theorem Tryd.infoSSym : (Tryd.prog.info? 34).map (fun i => (i.zero, i.size, i.bytes)) = some (some (.agg #[.string ⟨#[]⟩, .int .u8 0, .int .u8 0, .int .u16 0, .int .u64 0]), 5, 32) := by kernel_rfl

set_option maxRecDepth 100000 in
set_option maxHeartbeats 8000000 in
theorem specSyms_wide (big : Bool) (n : Nat) (A : Option Addr) (s : List UInt8) (ls cs : Nat) (B : Option Addr) (t : List UInt8) (lt ct : Nat) (w : World) (hn : n ≤ 65535)
    (hS : Hid (ls = s.length)) (hcs : ls ≤ cs) (hls : ls ≤ 2147483647) (hA : Hid (RB w A s)) (hT : Hid (lt = t.length)) (hct : lt ≤ ct) (hlt : lt ≤ 2147483647) (hB : Hid (RB w B t)) :
    Calls Tryd.prog 8 #[.bool true, .bool big, .int .i64 n, .slice A ls cs, .slice B lt ct] w fun e w' => SPost true big s t n w e w' ∧ Below w.heap.size w w' := by
  obtain ⟨i0, hi, hz0, hz1, hz2⟩ := info_parts Tryd.infoSSym
  have q3 : IntKind.u64.wrap (lt : Int) = (lt : Int) := IntWalk.u64_in _ (by omega)
  go_enter Tryd.func8, Tryd.ntmps8
  go_wp2_with fail
  refine (machoNlist_any true _).mono ?_
  rintro e w1 ⟨⟨v1, rfl, R1⟩, b1⟩
  have own1 := owns_later (World.ownsRow_made (base := w.heap.size) (e := 34) (size := 5) w #[] 0 (Nat.le_refl _) (by simp [maxLen]) rfl) b1
  have b2 := Lib.hid (((Below.refl w.heap.size w).alloc (Nat.le_refl _) (.cells #[] 34)).trans (b1.mono (by simp)))
  replace own1 := Lib.hid own1
  clear b1
  go_wp2_with fail
  refine (specWidth v1 [4, 1, 1, 2, 8] 5 5 w1 (Lib.hid rfl) (by omega) (Lib.hid (by decide)) (Lib.hid (by exact R1))).mono ?_
  rintro e w' ⟨rfl, rfl⟩
  have hwd : ((widthOf [4, 1, 1, 2, 8] : Nat) : Int) = 16 := rfl
  rw [hwd]
  clear hwd R1
  go_wp2
  go_loopw [12, 23] (fun v i wr => ∃ (k : Nat), k ≤ n ∧ i = .int .i64 k ∧ Hid (∀ j, j < k → mGood true big s t j = true) ∧ Hid (wr.ownsRow w.heap.size 34 5 v k (mRow true big s t k)) ∧ Hid (Below w.heap.size w wr)) (fun _ i _ => n - (intOf i).toNat)
  case atStart => exact ⟨0, Nat.zero_le _, rfl, Lib.hid (fun j hj => absurd hj (Nat.not_lt_zero _)), own1, b2⟩
  case round =>
    obtain ⟨k, hk, rfl, hgood, hown, hbl⟩ := hrel
    have hz := hbl.out.size
    by_cases hkn : k < n
    · have hki : (k : Int) < (n : Int) := by omega
      have p1 : IntKind.i64.wrap ((k : Int) + 1) = (k : Int) + 1 := IntWalk.i64_in _ (by omega)
      have p2 : IntKind.i64.wrap (16 * ((k : Int) + 1)) = 16 * ((k : Int) + 1) := IntWalk.i64_in _ (by omega)
      have p3 : IntKind.i64.wrap (16 * (k : Int)) = 16 * (k : Int) := IntWalk.i64_in _ (by omega)
      by_cases hsh : ls < 16 * (k + 1)
      · have h1 : (ls : Int) < 16 * ((k : Int) + 1) := by omega
        have hbad : Hid (∀ w', SPost true big s t n w (.returned (.tuple #[.slice none 0 0, .bool false])) w') := Lib.hid (fun w' => .inr ⟨⟨k, hkn, by
          unfold mGood
          rw [decide_eq_false (show ¬ symW true * (k + 1) ≤ s.length by show ¬ 16 * (k + 1) ≤ s.length; have := hS.out; omega)]
          rfl⟩, rfl⟩)
        clear hown hgood
        go_wp2
        go_ret2
        exact ⟨hbad.out _, hbl.out⟩
      · have h1 : ¬ (ls : Int) < 16 * ((k : Int) + 1) := by omega
        have h2 : (0 : Int) ≤ 16 * (k : Int) := by omega
        have h3 : 16 * (k : Int) ≤ (ls : Int) := by omega
        have s1 : ∀ W, (Instr.slice 23 (.slice A ls cs) (some (.int .i64 (16 * (k : Int)))) none none).run Tryd.prog W = .ok (.slice (slA A cs (16 * k)) (ls - 16 * k) (cs - 16 * k)) W := fun W => run_slice_from (P := Tryd.prog) Tryd.underlying23 (info_parts Tryd.infoByte).choose_spec.1 (info_parts Tryd.infoByte).choose_spec.2.2.1 A ls cs (16 * k) .i64 (by omega) W
        have Ak := Lib.hid ((hA.out.below hbl.out (fun a ha h0 => RB.ltA hA.out (List.length_pos_iff.2 h0) a ha)).drop (c := cs) (by have := hS.out; omega) (16 * k))
        have hN2 := Lib.hid (show ls - 16 * k = (s.drop (16 * k)).length by rw [List.length_drop, ← hS.out])
        have hZ2 := Lib.hid (show widthOf [4, 1, 1, 2, 8] ≤ (s.drop (16 * k)).length by rw [← hN2.out]; show 16 ≤ _; omega)
        have hnums : numsOf big [4, 1, 1, 2, 8] (s.drop (16 * k)) = [mNm true big s k, mTy true big s k, mSe true big s k, mDe true big s k, mVa true big s k] := by
          simp [numsOf, mNm, mTy, mSe, mDe, mVa, symW, List.drop_drop]
        have hK2 := Lib.hid (show (numsOf big [4, 1, 1, 2, 8] (s.drop (16 * k))).length = 5 by rw [hnums]; rfl)
        have hcl : ls - 16 * k ≤ cs - 16 * k := by omega
        have hms := Lib.hid (mRow_succ true big s t k)
        have hcells : mCells true big s t k = [.string ⟨(mText true big s t k).toArray⟩, .int .u8 (mTy true big s k : Int), .int .u8 (mSe true big s k : Int), .int .u16 (mDe true big s k : Int), .int .u64 (mVa true big s k : Int)] := rfl
        rw [hcells] at hms
        have htx : mText true big s t k = strip (text (t.drop (mNm true big s k))) := rfl
        have hgk : mGood true big s t k = decide (mNm true big s k < t.length) := by
          unfold mGood
          rw [decide_eq_true (show symW true * (k + 1) ≤ s.length by show 16 * (k + 1) ≤ s.length; have := hS.out; omega), Bool.true_and]
        have l1 : mTy true big s k < 256 := num1_lt big _ 1 256 (by decide)
        have l2 : mSe true big s k < 256 := num1_lt big _ 1 256 (by decide)
        have l3 : mDe true big s k < 65536 := num1_lt big _ 2 65536 (by decide)
        replace hnums := Lib.hid hnums
        go_wp2_with fail
        go_region_held3 (fun _ => True) (trivial) (first
          | (go_at_call 19; refine (machoNlist_any true _).mono ?_; rintro e w2 ⟨⟨vW, rfl, RW⟩, b3⟩; (try replace b3 := Below.undrew b3); have A2 := Lib.hid (Ak.out.later b3); replace RW := Lib.hid RW; replace b3 := Lib.hid b3)
          | (go_at_call 20; refine (fields_ok big (slA A cs (16 * k)) vW (s.drop (16 * k)) [4, 1, 1, 2, 8] (ls - 16 * k) (cs - 16 * k) 5 5 hN2 hcl (by omega) (Lib.hid rfl) (by omega) (Lib.hid (by decide)) w2 A2 RW hZ2 5 hK2).mono ?_; rintro e w3 ⟨⟨B3, d3, rfl, R3⟩, b4⟩; replace b4 := Lib.hid b4))
        have b34 := Lib.hid (b3.out.trans (b4.out.mono b3.out.size))
        have own3 := Lib.hid (owns_later hown.out b34.out)
        have b5 := Lib.hid (hbl.out.trans (b34.out.mono hz))
        have hz5 := b5.out.size
        rw [hnums.out] at R3
        generalize mNm true big s k = nm at *
        generalize mTy true big s k = ty at *
        generalize mSe true big s k = se at *
        generalize mDe true big s k = de at *
        generalize mVa true big s k = va at *
        generalize mText true big s t k = nx at *
        obtain ⟨g3, o3, hB3, y0⟩ := R3.out.at (j := 0) (u := .int .u64 (nm : Int)) rfl
        subst hB3
        have yy : ∀ j u, ([.int .u64 (nm : Int), .int .u64 (ty : Int), .int .u64 (se : Int), .int .u64 (de : Int), .int .u64 (va : Int)] : List Value)[j]? = some u → w3.cell? ⟨g3, o3 + j, none⟩ = some u := fun j u hu => by
          obtain ⟨g, o, e1, hc⟩ := R3.out.at (j := j) (u := u) hu
          injection e1 with e1
          injection e1 with e1 e2
          subst e1
          subst e2
          exact hc
        simp only [Nat.add_zero] at y0
        have y1 := yy 1 _ rfl
        have y2 := yy 2 _ rfl
        have y3 := yy 3 _ rfl
        have y4 := yy 4 _ rfl
        have x1 : IntKind.u8.wrap (ty : Int) = (ty : Int) := by rw [IntKind.wrap_u8]; omega
        have x2 : IntKind.u8.wrap (se : Int) = (se : Int) := by rw [IntKind.wrap_u8]; omega
        have x3 : IntKind.u16.wrap (de : Int) = (de : Int) := by rw [IntKind.wrap_u16]; omega
        have hnG : some g3 ≠ u12.ownBlock := fun e => by
          obtain ⟨g, o, cur, fr, e1, hg, -⟩ := R3.out.2 (by omega)
          injection e1 with e1
          injection e1 with e1 e2
          subst e1
          exact owns_ne own3.out hg (by decide) e.symm
        clear R3 yy hnums b34 hcells
        have hg3 : g3 < w3.heap.size := World.block_lt_of_cell? w3 _ y0
        have hgn : some g3 ≠ u12.ownBlock := hnG
        have hge : Hid (∀ q, u12.ownBlock = some q → w.heap.size ≤ q) := Lib.hid (fun q hq => (hown.out.lt q hq).1)
        by_cases hnt : nm < lt
        · have hcmp : ¬ (lt : Int) ≤ (nm : Int) := by omega
          have hgood1 : Hid (∀ j, j < k + 1 → mGood true big s t j = true) := Lib.hid (fun j hj => by
            by_cases hjk : j < k
            · exact hgood.out j hjk
            · obtain rfl : j = k := by omega
              rw [hgk, decide_eq_true (by have := hT.out; omega)])
          have hsl : ∀ W, (Instr.slice 23 (.slice B lt ct) (some (.int .u64 (nm : Int))) none none).run Tryd.prog W = .ok (.slice (slA B ct nm) (lt - nm) (ct - nm)) W := fun W => run_slice_from (P := Tryd.prog) Tryd.underlying23 (info_parts Tryd.infoByte).choose_spec.1 (info_parts Tryd.infoByte).choose_spec.2.2.1 B lt ct nm .u64 (by omega) W
          have hn0 : (0 : Int) ≤ (nm : Int) := by omega
          have hn1 : (nm : Int) ≤ (lt : Int) := by omega
          have Bd : Hid (RB w3 (slA B ct nm) (t.drop nm)) := Lib.hid ((hB.out.below b5.out (fun a ha h0 => RB.ltA hB.out (List.length_pos_iff.2 h0) a ha)).drop (c := ct) (by rw [← hT.out]; exact hct) nm)
          have CS := Lib.hid (specText_any (slA B ct nm) (t.drop nm) (lt - nm) (ct - nm) (by rw [List.length_drop, ← hT.out]) (by omega) (by omega) w3 Bd.out)
          have hxs : (text (t.drop nm)).length ≤ lt := by
            have h1 := text_le (t.drop nm)
            rw [List.length_drop, ← hT.out] at h1
            omega
          obtain ⟨S, hSx⟩ : ∃ S : ByteArray, S = ⟨(text (t.drop nm)).toArray⟩ := ⟨_, rfl⟩
          have hSl : S.data.toList = text (t.drop nm) := by rw [hSx]
          have hSz : S.size ≤ 2147483647 := by
            have : S.size = S.data.toList.length := by simp
            rw [this, hSl]
            omega
          rw [← hSx] at CS
          rw [← hSl] at htx
          have DT := Lib.hid (specDotted S hSz w3)
          clear hSl hSx hxs hgk Bd
          go_wp2_with fail
          refine CS.out.mono ?_
          rintro e w' ⟨rfl, rfl⟩
          go_wp2_with fail
          refine DT.out.mono ?_
          rintro e w' ⟨rfl, rfl⟩
          by_cases hdt : dotted S.data.toList = true
          · have hS0 : 0 < S.size := by
              have : dot S.data.toList = true := by unfold dotted at hdt; simp at hdt; exact hdt.2
              have := dot_pos this
              simpa using this
            have hst : nx = S.data.toList.drop 1 := by rw [htx]; unfold strip; rw [if_pos hdt]
            have hs1 := strip_slice S (by omega)
            rw [← hst] at hs1
            rw [hdt]
            clear htx hst hdt DT CS
            go_wp2_with fail
            go_region_held3 (fun w' => w'.cell? ⟨g3, o3 + 1, none⟩ = some (.int .u64 (ty : Int)) ∧ w'.cell? ⟨g3, o3 + 2, none⟩ = some (.int .u64 (se : Int)) ∧ w'.cell? ⟨g3, o3 + 3, none⟩ = some (.int .u64 (de : Int)) ∧ w'.cell? ⟨g3, o3 + 4, none⟩ = some (.int .u64 (va : Int)))
              (first | exact ⟨y1, y2, y3, y4⟩ | exact K1.out | go_keep)
              (first | (refine step_append_any (by rfl) (.tmp 62) (.tmp 80) 28 (by rfl) w.heap.size 34 i0 _ 5 32 Tryd.underlying28 hi hz0 hz1 hz2 rfl (by omega) u12 k _ (by rfl) ((own3.out.alloc _).drew) (some ⟨w3.heap.size, 0, none⟩) 1 1 [.string ⟨nx.toArray⟩, .int .u8 (ty : Int), .int .u8 (se : Int), .int .u16 (de : Int), .int .u64 (va : Int)] (by rfl) (rc_newN rfl rfl) (List.all_eq_true.1 rfl) (by simp only [maxLen]; omega) (by omega) (by simp; omega) ?_; intro v5 w5 own5 g5 at5; have K1 : Hid (w5.cell? ⟨g3, o3 + 1, none⟩ = some (.int .u64 (ty : Int)) ∧ w5.cell? ⟨g3, o3 + 2, none⟩ = some (.int .u64 (se : Int)) ∧ w5.cell? ⟨g3, o3 + 3, none⟩ = some (.int .u64 (de : Int)) ∧ w5.cell? ⟨g3, o3 + 4, none⟩ = some (.int .u64 (va : Int))) := Lib.hid ⟨g5.cell (((((Below.refl w3.heap.size w3).alloc (Nat.le_refl _) _).drew).cell (p := ⟨g3, o3 + 1, none⟩) hg3).trans y1) hgn, g5.cell (((((Below.refl w3.heap.size w3).alloc (Nat.le_refl _) _).drew).cell (p := ⟨g3, o3 + 2, none⟩) hg3).trans y2) hgn, g5.cell (((((Below.refl w3.heap.size w3).alloc (Nat.le_refl _) _).drew).cell (p := ⟨g3, o3 + 3, none⟩) hg3).trans y3) hgn, g5.cell (((((Below.refl w3.heap.size w3).alloc (Nat.le_refl _) _).drew).cell (p := ⟨g3, o3 + 4, none⟩) hg3).trans y4) hgn⟩))
            have b6 := Lib.hid ((((b5.out.alloc hz5 (.cells #[.string ⟨nx.toArray⟩, .int .u8 (ty : Int), .int .u8 (se : Int), .int .u16 (de : Int), .int .u64 (va : Int)] 34)).drew)).grown g5 (by simp; omega) hge.out)
            rw [← hms.out] at own5
            replace own5 := Lib.hid own5
            clear g5 at5 K1 own3 b5 hown hbl hgood b3 b4 y0 y1 y2 y3 y4
            go_wp2
            go_roundw
            case rel => exact ⟨k + 1, by omega, by go_num, hgood1, own5, b6⟩
            case measure => simp [intOf]; omega
          · have hdt' : dotted S.data.toList = false := by simpa using hdt
            have hst : nx = S.data.toList := by rw [htx]; unfold strip; rw [if_neg (by rw [hdt']; decide)]
            rw [hdt']
            have hSS : S = ⟨nx.toArray⟩ := by rw [hst]
            rw [← hSS] at hms
            clear htx hst hdt hdt' DT CS hSS
            go_wp2_with fail
            go_region_held3 (fun w' => w'.cell? ⟨g3, o3 + 1, none⟩ = some (.int .u64 (ty : Int)) ∧ w'.cell? ⟨g3, o3 + 2, none⟩ = some (.int .u64 (se : Int)) ∧ w'.cell? ⟨g3, o3 + 3, none⟩ = some (.int .u64 (de : Int)) ∧ w'.cell? ⟨g3, o3 + 4, none⟩ = some (.int .u64 (va : Int)))
              (first | exact ⟨y1, y2, y3, y4⟩ | exact K1.out | go_keep)
              (first | (refine step_append_any (by rfl) (.tmp 62) (.tmp 80) 28 (by rfl) w.heap.size 34 i0 _ 5 32 Tryd.underlying28 hi hz0 hz1 hz2 rfl (by omega) u12 k _ (by rfl) ((own3.out.alloc _).drew) (some ⟨w3.heap.size, 0, none⟩) 1 1 [.string S, .int .u8 (ty : Int), .int .u8 (se : Int), .int .u16 (de : Int), .int .u64 (va : Int)] (by rfl) (rc_newN rfl rfl) (List.all_eq_true.1 rfl) (by simp only [maxLen]; omega) (by omega) (by simp; omega) ?_; intro v5 w5 own5 g5 at5; have K1 : Hid (w5.cell? ⟨g3, o3 + 1, none⟩ = some (.int .u64 (ty : Int)) ∧ w5.cell? ⟨g3, o3 + 2, none⟩ = some (.int .u64 (se : Int)) ∧ w5.cell? ⟨g3, o3 + 3, none⟩ = some (.int .u64 (de : Int)) ∧ w5.cell? ⟨g3, o3 + 4, none⟩ = some (.int .u64 (va : Int))) := Lib.hid ⟨g5.cell (((((Below.refl w3.heap.size w3).alloc (Nat.le_refl _) _).drew).cell (p := ⟨g3, o3 + 1, none⟩) hg3).trans y1) hgn, g5.cell (((((Below.refl w3.heap.size w3).alloc (Nat.le_refl _) _).drew).cell (p := ⟨g3, o3 + 2, none⟩) hg3).trans y2) hgn, g5.cell (((((Below.refl w3.heap.size w3).alloc (Nat.le_refl _) _).drew).cell (p := ⟨g3, o3 + 3, none⟩) hg3).trans y3) hgn, g5.cell (((((Below.refl w3.heap.size w3).alloc (Nat.le_refl _) _).drew).cell (p := ⟨g3, o3 + 4, none⟩) hg3).trans y4) hgn⟩))
            have b6 := Lib.hid ((((b5.out.alloc hz5 (.cells #[.string S, .int .u8 (ty : Int), .int .u8 (se : Int), .int .u16 (de : Int), .int .u64 (va : Int)] 34)).drew)).grown g5 (by simp; omega) hge.out)
            rw [← hms.out] at own5
            replace own5 := Lib.hid own5
            clear g5 at5 K1 own3 b5 hown hbl hgood b3 b4 y0 y1 y2 y3 y4
            go_wp2
            go_roundw
            case rel => exact ⟨k + 1, by omega, by go_num, hgood1, own5, b6⟩
            case measure => simp [intOf]; omega
        · have hcmp : (lt : Int) ≤ (nm : Int) := by omega
          have hbad : Hid (∀ w', SPost true big s t n w (.returned (.tuple #[.slice none 0 0, .bool false])) w') := Lib.hid (fun w' => .inr ⟨⟨k, hkn, by rw [hgk, decide_eq_false (by have := hT.out; omega)]⟩, rfl⟩)
          clear hgk htx hown hgood own3
          go_wp2
          go_ret2
          exact ⟨hbad.out _, b5.out⟩
    · obtain rfl : k = n := by omega
      have hfin : Hid (SPost true big s t k w (.returned (.tuple #[u12, .bool true])) wr) := Lib.hid (.inl ⟨hgood.out, _, rfl, hown⟩)
      clear hown hgood
      go_wp2
      go_ret2
      exact ⟨hfin.out, hbl.out⟩
set_option maxRecDepth 100000 in
set_option maxHeartbeats 8000000 in
theorem specSyms_narrow (big : Bool) (n : Nat) (A : Option Addr) (s : List UInt8) (ls cs : Nat) (B : Option Addr) (t : List UInt8) (lt ct : Nat) (w : World) (hn : n ≤ 65535)
    (hS : Hid (ls = s.length)) (hcs : ls ≤ cs) (hls : ls ≤ 2147483647) (hA : Hid (RB w A s)) (hT : Hid (lt = t.length)) (hct : lt ≤ ct) (hlt : lt ≤ 2147483647) (hB : Hid (RB w B t)) :
    Calls Tryd.prog 8 #[.bool false, .bool big, .int .i64 n, .slice A ls cs, .slice B lt ct] w fun e w' => SPost false big s t n w e w' ∧ Below w.heap.size w w' := by
  obtain ⟨i0, hi, hz0, hz1, hz2⟩ := info_parts Tryd.infoSSym
  have q3 : IntKind.u64.wrap (lt : Int) = (lt : Int) := IntWalk.u64_in _ (by omega)
  go_enter Tryd.func8, Tryd.ntmps8
  go_wp2_with fail
  refine (machoNlist_any false _).mono ?_
  rintro e w1 ⟨⟨v1, rfl, R1⟩, b1⟩
  have own1 := owns_later (World.ownsRow_made (base := w.heap.size) (e := 34) (size := 5) w #[] 0 (Nat.le_refl _) (by simp [maxLen]) rfl) b1
  have b2 := Lib.hid (((Below.refl w.heap.size w).alloc (Nat.le_refl _) (.cells #[] 34)).trans (b1.mono (by simp)))
  replace own1 := Lib.hid own1
  clear b1
  go_wp2_with fail
  refine (specWidth v1 [4, 1, 1, 2, 4] 5 5 w1 (Lib.hid rfl) (by omega) (Lib.hid (by decide)) (Lib.hid (by exact R1))).mono ?_
  rintro e w' ⟨rfl, rfl⟩
  have hwd : ((widthOf [4, 1, 1, 2, 4] : Nat) : Int) = 12 := rfl
  rw [hwd]
  clear hwd R1
  go_wp2
  go_loopw [12, 23] (fun v i wr => ∃ (k : Nat), k ≤ n ∧ i = .int .i64 k ∧ Hid (∀ j, j < k → mGood false big s t j = true) ∧ Hid (wr.ownsRow w.heap.size 34 5 v k (mRow false big s t k)) ∧ Hid (Below w.heap.size w wr)) (fun _ i _ => n - (intOf i).toNat)
  case atStart => exact ⟨0, Nat.zero_le _, rfl, Lib.hid (fun j hj => absurd hj (Nat.not_lt_zero _)), own1, b2⟩
  case round =>
    obtain ⟨k, hk, rfl, hgood, hown, hbl⟩ := hrel
    have hz := hbl.out.size
    by_cases hkn : k < n
    · have hki : (k : Int) < (n : Int) := by omega
      have p1 : IntKind.i64.wrap ((k : Int) + 1) = (k : Int) + 1 := IntWalk.i64_in _ (by omega)
      have p2 : IntKind.i64.wrap (12 * ((k : Int) + 1)) = 12 * ((k : Int) + 1) := IntWalk.i64_in _ (by omega)
      have p3 : IntKind.i64.wrap (12 * (k : Int)) = 12 * (k : Int) := IntWalk.i64_in _ (by omega)
      by_cases hsh : ls < 12 * (k + 1)
      · have h1 : (ls : Int) < 12 * ((k : Int) + 1) := by omega
        have hbad : Hid (∀ w', SPost false big s t n w (.returned (.tuple #[.slice none 0 0, .bool false])) w') := Lib.hid (fun w' => .inr ⟨⟨k, hkn, by
          unfold mGood
          rw [decide_eq_false (show ¬ symW false * (k + 1) ≤ s.length by show ¬ 12 * (k + 1) ≤ s.length; have := hS.out; omega)]
          rfl⟩, rfl⟩)
        clear hown hgood
        go_wp2
        go_ret2
        exact ⟨hbad.out _, hbl.out⟩
      · have h1 : ¬ (ls : Int) < 12 * ((k : Int) + 1) := by omega
        have h2 : (0 : Int) ≤ 12 * (k : Int) := by omega
        have h3 : 12 * (k : Int) ≤ (ls : Int) := by omega
        have s1 : ∀ W, (Instr.slice 23 (.slice A ls cs) (some (.int .i64 (12 * (k : Int)))) none none).run Tryd.prog W = .ok (.slice (slA A cs (12 * k)) (ls - 12 * k) (cs - 12 * k)) W := fun W => run_slice_from (P := Tryd.prog) Tryd.underlying23 (info_parts Tryd.infoByte).choose_spec.1 (info_parts Tryd.infoByte).choose_spec.2.2.1 A ls cs (12 * k) .i64 (by omega) W
        have Ak := Lib.hid ((hA.out.below hbl.out (fun a ha h0 => RB.ltA hA.out (List.length_pos_iff.2 h0) a ha)).drop (c := cs) (by have := hS.out; omega) (12 * k))
        have hN2 := Lib.hid (show ls - 12 * k = (s.drop (12 * k)).length by rw [List.length_drop, ← hS.out])
        have hZ2 := Lib.hid (show widthOf [4, 1, 1, 2, 4] ≤ (s.drop (12 * k)).length by rw [← hN2.out]; show 12 ≤ _; omega)
        have hnums : numsOf big [4, 1, 1, 2, 4] (s.drop (12 * k)) = [mNm false big s k, mTy false big s k, mSe false big s k, mDe false big s k, mVa false big s k] := by
          simp [numsOf, mNm, mTy, mSe, mDe, mVa, symW, List.drop_drop]
        have hK2 := Lib.hid (show (numsOf big [4, 1, 1, 2, 4] (s.drop (12 * k))).length = 5 by rw [hnums]; rfl)
        have hcl : ls - 12 * k ≤ cs - 12 * k := by omega
        have hms := Lib.hid (mRow_succ false big s t k)
        have hcells : mCells false big s t k = [.string ⟨(mText false big s t k).toArray⟩, .int .u8 (mTy false big s k : Int), .int .u8 (mSe false big s k : Int), .int .u16 (mDe false big s k : Int), .int .u64 (mVa false big s k : Int)] := rfl
        rw [hcells] at hms
        have htx : mText false big s t k = strip (text (t.drop (mNm false big s k))) := rfl
        have hgk : mGood false big s t k = decide (mNm false big s k < t.length) := by
          unfold mGood
          rw [decide_eq_true (show symW false * (k + 1) ≤ s.length by show 12 * (k + 1) ≤ s.length; have := hS.out; omega), Bool.true_and]
        have l1 : mTy false big s k < 256 := num1_lt big _ 1 256 (by decide)
        have l2 : mSe false big s k < 256 := num1_lt big _ 1 256 (by decide)
        have l3 : mDe false big s k < 65536 := num1_lt big _ 2 65536 (by decide)
        replace hnums := Lib.hid hnums
        go_wp2_with fail
        go_region_held3 (fun _ => True) (trivial) (first
          | (go_at_call 19; refine (machoNlist_any false _).mono ?_; rintro e w2 ⟨⟨vW, rfl, RW⟩, b3⟩; (try replace b3 := Below.undrew b3); have A2 := Lib.hid (Ak.out.later b3); replace RW := Lib.hid RW; replace b3 := Lib.hid b3)
          | (go_at_call 20; refine (fields_ok big (slA A cs (12 * k)) vW (s.drop (12 * k)) [4, 1, 1, 2, 4] (ls - 12 * k) (cs - 12 * k) 5 5 hN2 hcl (by omega) (Lib.hid rfl) (by omega) (Lib.hid (by decide)) w2 A2 RW hZ2 5 hK2).mono ?_; rintro e w3 ⟨⟨B3, d3, rfl, R3⟩, b4⟩; replace b4 := Lib.hid b4))
        have b34 := Lib.hid (b3.out.trans (b4.out.mono b3.out.size))
        have own3 := Lib.hid (owns_later hown.out b34.out)
        have b5 := Lib.hid (hbl.out.trans (b34.out.mono hz))
        have hz5 := b5.out.size
        rw [hnums.out] at R3
        generalize mNm false big s k = nm at *
        generalize mTy false big s k = ty at *
        generalize mSe false big s k = se at *
        generalize mDe false big s k = de at *
        generalize mVa false big s k = va at *
        generalize mText false big s t k = nx at *
        obtain ⟨g3, o3, hB3, y0⟩ := R3.out.at (j := 0) (u := .int .u64 (nm : Int)) rfl
        subst hB3
        have yy : ∀ j u, ([.int .u64 (nm : Int), .int .u64 (ty : Int), .int .u64 (se : Int), .int .u64 (de : Int), .int .u64 (va : Int)] : List Value)[j]? = some u → w3.cell? ⟨g3, o3 + j, none⟩ = some u := fun j u hu => by
          obtain ⟨g, o, e1, hc⟩ := R3.out.at (j := j) (u := u) hu
          injection e1 with e1
          injection e1 with e1 e2
          subst e1
          subst e2
          exact hc
        simp only [Nat.add_zero] at y0
        have y1 := yy 1 _ rfl
        have y2 := yy 2 _ rfl
        have y3 := yy 3 _ rfl
        have y4 := yy 4 _ rfl
        have x1 : IntKind.u8.wrap (ty : Int) = (ty : Int) := by rw [IntKind.wrap_u8]; omega
        have x2 : IntKind.u8.wrap (se : Int) = (se : Int) := by rw [IntKind.wrap_u8]; omega
        have x3 : IntKind.u16.wrap (de : Int) = (de : Int) := by rw [IntKind.wrap_u16]; omega
        have hnG : some g3 ≠ u12.ownBlock := fun e => by
          obtain ⟨g, o, cur, fr, e1, hg, -⟩ := R3.out.2 (by omega)
          injection e1 with e1
          injection e1 with e1 e2
          subst e1
          exact owns_ne own3.out hg (by decide) e.symm
        clear R3 yy hnums b34 hcells
        have hg3 : g3 < w3.heap.size := World.block_lt_of_cell? w3 _ y0
        have hgn : some g3 ≠ u12.ownBlock := hnG
        have hge : Hid (∀ q, u12.ownBlock = some q → w.heap.size ≤ q) := Lib.hid (fun q hq => (hown.out.lt q hq).1)
        by_cases hnt : nm < lt
        · have hcmp : ¬ (lt : Int) ≤ (nm : Int) := by omega
          have hgood1 : Hid (∀ j, j < k + 1 → mGood false big s t j = true) := Lib.hid (fun j hj => by
            by_cases hjk : j < k
            · exact hgood.out j hjk
            · obtain rfl : j = k := by omega
              rw [hgk, decide_eq_true (by have := hT.out; omega)])
          have hsl : ∀ W, (Instr.slice 23 (.slice B lt ct) (some (.int .u64 (nm : Int))) none none).run Tryd.prog W = .ok (.slice (slA B ct nm) (lt - nm) (ct - nm)) W := fun W => run_slice_from (P := Tryd.prog) Tryd.underlying23 (info_parts Tryd.infoByte).choose_spec.1 (info_parts Tryd.infoByte).choose_spec.2.2.1 B lt ct nm .u64 (by omega) W
          have hn0 : (0 : Int) ≤ (nm : Int) := by omega
          have hn1 : (nm : Int) ≤ (lt : Int) := by omega
          have Bd : Hid (RB w3 (slA B ct nm) (t.drop nm)) := Lib.hid ((hB.out.below b5.out (fun a ha h0 => RB.ltA hB.out (List.length_pos_iff.2 h0) a ha)).drop (c := ct) (by rw [← hT.out]; exact hct) nm)
          have CS := Lib.hid (specText_any (slA B ct nm) (t.drop nm) (lt - nm) (ct - nm) (by rw [List.length_drop, ← hT.out]) (by omega) (by omega) w3 Bd.out)
          have hxs : (text (t.drop nm)).length ≤ lt := by
            have h1 := text_le (t.drop nm)
            rw [List.length_drop, ← hT.out] at h1
            omega
          obtain ⟨S, hSx⟩ : ∃ S : ByteArray, S = ⟨(text (t.drop nm)).toArray⟩ := ⟨_, rfl⟩
          have hSl : S.data.toList = text (t.drop nm) := by rw [hSx]
          have hSz : S.size ≤ 2147483647 := by
            have : S.size = S.data.toList.length := by simp
            rw [this, hSl]
            omega
          rw [← hSx] at CS
          rw [← hSl] at htx
          have DT := Lib.hid (specDotted S hSz w3)
          clear hSl hSx hxs hgk Bd
          go_wp2_with fail
          refine CS.out.mono ?_
          rintro e w' ⟨rfl, rfl⟩
          go_wp2_with fail
          refine DT.out.mono ?_
          rintro e w' ⟨rfl, rfl⟩
          by_cases hdt : dotted S.data.toList = true
          · have hS0 : 0 < S.size := by
              have : dot S.data.toList = true := by unfold dotted at hdt; simp at hdt; exact hdt.2
              have := dot_pos this
              simpa using this
            have hst : nx = S.data.toList.drop 1 := by rw [htx]; unfold strip; rw [if_pos hdt]
            have hs1 := strip_slice S (by omega)
            rw [← hst] at hs1
            rw [hdt]
            clear htx hst hdt DT CS
            go_wp2_with fail
            go_region_held3 (fun w' => w'.cell? ⟨g3, o3 + 1, none⟩ = some (.int .u64 (ty : Int)) ∧ w'.cell? ⟨g3, o3 + 2, none⟩ = some (.int .u64 (se : Int)) ∧ w'.cell? ⟨g3, o3 + 3, none⟩ = some (.int .u64 (de : Int)) ∧ w'.cell? ⟨g3, o3 + 4, none⟩ = some (.int .u64 (va : Int)))
              (first | exact ⟨y1, y2, y3, y4⟩ | exact K1.out | go_keep)
              (first | (refine step_append_any (by rfl) (.tmp 62) (.tmp 80) 28 (by rfl) w.heap.size 34 i0 _ 5 32 Tryd.underlying28 hi hz0 hz1 hz2 rfl (by omega) u12 k _ (by rfl) ((own3.out.alloc _).drew) (some ⟨w3.heap.size, 0, none⟩) 1 1 [.string ⟨nx.toArray⟩, .int .u8 (ty : Int), .int .u8 (se : Int), .int .u16 (de : Int), .int .u64 (va : Int)] (by rfl) (rc_newN rfl rfl) (List.all_eq_true.1 rfl) (by simp only [maxLen]; omega) (by omega) (by simp; omega) ?_; intro v5 w5 own5 g5 at5; have K1 : Hid (w5.cell? ⟨g3, o3 + 1, none⟩ = some (.int .u64 (ty : Int)) ∧ w5.cell? ⟨g3, o3 + 2, none⟩ = some (.int .u64 (se : Int)) ∧ w5.cell? ⟨g3, o3 + 3, none⟩ = some (.int .u64 (de : Int)) ∧ w5.cell? ⟨g3, o3 + 4, none⟩ = some (.int .u64 (va : Int))) := Lib.hid ⟨g5.cell (((((Below.refl w3.heap.size w3).alloc (Nat.le_refl _) _).drew).cell (p := ⟨g3, o3 + 1, none⟩) hg3).trans y1) hgn, g5.cell (((((Below.refl w3.heap.size w3).alloc (Nat.le_refl _) _).drew).cell (p := ⟨g3, o3 + 2, none⟩) hg3).trans y2) hgn, g5.cell (((((Below.refl w3.heap.size w3).alloc (Nat.le_refl _) _).drew).cell (p := ⟨g3, o3 + 3, none⟩) hg3).trans y3) hgn, g5.cell (((((Below.refl w3.heap.size w3).alloc (Nat.le_refl _) _).drew).cell (p := ⟨g3, o3 + 4, none⟩) hg3).trans y4) hgn⟩))
            have b6 := Lib.hid ((((b5.out.alloc hz5 (.cells #[.string ⟨nx.toArray⟩, .int .u8 (ty : Int), .int .u8 (se : Int), .int .u16 (de : Int), .int .u64 (va : Int)] 34)).drew)).grown g5 (by simp; omega) hge.out)
            rw [← hms.out] at own5
            replace own5 := Lib.hid own5
            clear g5 at5 K1 own3 b5 hown hbl hgood b3 b4 y0 y1 y2 y3 y4
            go_wp2
            go_roundw
            case rel => exact ⟨k + 1, by omega, by go_num, hgood1, own5, b6⟩
            case measure => simp [intOf]; omega
          · have hdt' : dotted S.data.toList = false := by simpa using hdt
            have hst : nx = S.data.toList := by rw [htx]; unfold strip; rw [if_neg (by rw [hdt']; decide)]
            rw [hdt']
            have hSS : S = ⟨nx.toArray⟩ := by rw [hst]
            rw [← hSS] at hms
            clear htx hst hdt hdt' DT CS hSS
            go_wp2_with fail
            go_region_held3 (fun w' => w'.cell? ⟨g3, o3 + 1, none⟩ = some (.int .u64 (ty : Int)) ∧ w'.cell? ⟨g3, o3 + 2, none⟩ = some (.int .u64 (se : Int)) ∧ w'.cell? ⟨g3, o3 + 3, none⟩ = some (.int .u64 (de : Int)) ∧ w'.cell? ⟨g3, o3 + 4, none⟩ = some (.int .u64 (va : Int)))
              (first | exact ⟨y1, y2, y3, y4⟩ | exact K1.out | go_keep)
              (first | (refine step_append_any (by rfl) (.tmp 62) (.tmp 80) 28 (by rfl) w.heap.size 34 i0 _ 5 32 Tryd.underlying28 hi hz0 hz1 hz2 rfl (by omega) u12 k _ (by rfl) ((own3.out.alloc _).drew) (some ⟨w3.heap.size, 0, none⟩) 1 1 [.string S, .int .u8 (ty : Int), .int .u8 (se : Int), .int .u16 (de : Int), .int .u64 (va : Int)] (by rfl) (rc_newN rfl rfl) (List.all_eq_true.1 rfl) (by simp only [maxLen]; omega) (by omega) (by simp; omega) ?_; intro v5 w5 own5 g5 at5; have K1 : Hid (w5.cell? ⟨g3, o3 + 1, none⟩ = some (.int .u64 (ty : Int)) ∧ w5.cell? ⟨g3, o3 + 2, none⟩ = some (.int .u64 (se : Int)) ∧ w5.cell? ⟨g3, o3 + 3, none⟩ = some (.int .u64 (de : Int)) ∧ w5.cell? ⟨g3, o3 + 4, none⟩ = some (.int .u64 (va : Int))) := Lib.hid ⟨g5.cell (((((Below.refl w3.heap.size w3).alloc (Nat.le_refl _) _).drew).cell (p := ⟨g3, o3 + 1, none⟩) hg3).trans y1) hgn, g5.cell (((((Below.refl w3.heap.size w3).alloc (Nat.le_refl _) _).drew).cell (p := ⟨g3, o3 + 2, none⟩) hg3).trans y2) hgn, g5.cell (((((Below.refl w3.heap.size w3).alloc (Nat.le_refl _) _).drew).cell (p := ⟨g3, o3 + 3, none⟩) hg3).trans y3) hgn, g5.cell (((((Below.refl w3.heap.size w3).alloc (Nat.le_refl _) _).drew).cell (p := ⟨g3, o3 + 4, none⟩) hg3).trans y4) hgn⟩))
            have b6 := Lib.hid ((((b5.out.alloc hz5 (.cells #[.string S, .int .u8 (ty : Int), .int .u8 (se : Int), .int .u16 (de : Int), .int .u64 (va : Int)] 34)).drew)).grown g5 (by simp; omega) hge.out)
            rw [← hms.out] at own5
            replace own5 := Lib.hid own5
            clear g5 at5 K1 own3 b5 hown hbl hgood b3 b4 y0 y1 y2 y3 y4
            go_wp2
            go_roundw
            case rel => exact ⟨k + 1, by omega, by go_num, hgood1, own5, b6⟩
            case measure => simp [intOf]; omega
        · have hcmp : (lt : Int) ≤ (nm : Int) := by omega
          have hbad : Hid (∀ w', SPost false big s t n w (.returned (.tuple #[.slice none 0 0, .bool false])) w') := Lib.hid (fun w' => .inr ⟨⟨k, hkn, by rw [hgk, decide_eq_false (by have := hT.out; omega)]⟩, rfl⟩)
          clear hgk htx hown hgood own3
          go_wp2
          go_ret2
          exact ⟨hbad.out _, b5.out⟩
    · obtain rfl : k = n := by omega
      have hfin : Hid (SPost false big s t k w (.returned (.tuple #[u12, .bool true])) wr) := Lib.hid (.inl ⟨hgood.out, _, rfl, hown⟩)
      clear hown hgood
      go_wp2
      go_ret2
      exact ⟨hfin.out, hbl.out⟩
end Go.Proofs.YtmgmmdhaklokjaaDoor
