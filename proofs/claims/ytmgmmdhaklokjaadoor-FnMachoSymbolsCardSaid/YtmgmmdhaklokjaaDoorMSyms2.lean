/-
  The contract of parseSymtab.
-/
import Derived.Test.YtmgmmdhaklokjaaDoorMSyms0
namespace Go.Proofs.YtmgmmdhaklokjaaDoor
set_option linter.unusedVariables false
set_option linter.unusedSimpArgs false
open Go Go.RowKit
attribute [local go_sem ↓] Go.wp_at_zero Go.wp_at_succ

set_option maxRecDepth 100000 in
set_option maxHeartbeats 8000000 in
theorem parse_narrow (Fp fo Hp ho : Nat) (big : Bool) (mg : Int) (A : Option Addr) (s : List UInt8) (ls cs : Nat) (B : Option Addr) (t : List UInt8) (lt ct : Nat) (C : Option Addr) (ln cn : Nat) (ofs : Int) (n : Nat) (w : World) (hn : n ≤ 65535) (hmg : Hid (mg ≠ 4277009103))
    (hc0 : w.cell? ⟨Fp, fo, none⟩ = some (.int .u32 mg)) (hc7 : w.cell? ⟨Fp, fo + 7, none⟩ = some (.int .u8 (ordn big))) (hh3 : w.cell? ⟨Hp, ho + 3, none⟩ = some (.int .u32 n))
    (hS : Hid (ls = s.length)) (hcs : ls ≤ cs) (hls : ls ≤ 2147483647) (hA : Hid (RB w A s)) (hAl : Hid (∀ a, A = some a → a.block < w.heap.size)) (hT : Hid (lt = t.length)) (hct : lt ≤ ct) (hlt : lt ≤ 2147483647) (hB : Hid (RB w B t)) (h3 : 3 ≤ w.heap.size) (TE TU : TypeId) (vE vU : Value) (hErr : Hid (ErrsAt w TE TU vE vU)) :
    Calls Tryd.prog 26 #[.pointer (some ⟨Fp, fo, none⟩), .slice A ls cs, .slice B lt ct, .slice C ln cn, .pointer (some ⟨Hp, ho, none⟩), .int .i64 ofs] w fun e w' => ParsePost false big s t n (.slice C ln cn) w e w' ∧ Below w.heap.size w w' := by
  obtain ⟨i0, hi, hz0, hz1, hz2⟩ := info_parts Tryd.infoMSym
  obtain ⟨cur, hcur, hmk⟩ := makeSyms n hn
  have q1 : IntKind.u64.wrap (n : Int) = (n : Int) := IntWalk.u64_in _ (by omega)
  have q2 : IntKind.i64.wrap (n : Int) = (n : Int) := IntWalk.i64_in _ (by omega)
  have q3 : IntKind.u32.wrap (lt : Int) = (lt : Int) := IntWalk.u32_in _ (by omega)
  have hFl : Fp < w.heap.size := World.block_lt_of_cell? w _ hc0
  have hHl : Hp < w.heap.size := World.block_lt_of_cell? w _ hh3
  have hm : (mg == 4277009103) = false := by rw [beq_eq_false_iff_ne]; exact hmg.out
  obtain ⟨w1, hw1⟩ : ∃ w1, w1 = (w.alloc (.cells cur.toArray 94)).alloc (.cells #[.slice A ls cs, .int .i64 0, .int .i64 (-1)] 125) := ⟨_, rfl⟩
  have b1 : Below w.heap.size w w1 := by rw [hw1]; exact ((Below.refl _ _).alloc (Nat.le_refl _) _).alloc (by simp) _
  have own1 : Hid (w1.ownsRow w.heap.size 94 5 (.slice (some ⟨w.heap.size, 0, none⟩) 0 n) 0 []) := Lib.hid (by rw [hw1]; exact (World.ownsRow_made w cur.toArray n (Nat.le_refl _) (by simp only [maxLen]; omega) (by simpa using hcur.out)).alloc _)
  have rd1 : Hid (Rdr w1 (.iface 105 (.pointer (some ⟨w.heap.size + 1, 0, none⟩))) (w.heap.size + 1) (fun x => ∃ a, A = some a ∧ a.block = x) s 0) := Lib.hid (by
    have b0 : Below w.heap.size w (w.alloc (.cells cur.toArray 94)) := (Below.refl _ _).alloc (Nat.le_refl _) _
    have := Rdr.made (w := w.alloc (.cells cur.toArray 94)) hS.out hls hcs (hA.out.later b0) (fun a ha => by have := hAl.out a ha; simp; omega) (by simp; omega)
    rw [World.size_alloc] at this
    rw [hw1]
    exact this)
  replace b1 := Lib.hid b1
  have hmg' := hm
  clear hcur hmg
  go_enter Tryd.func26, Tryd.ntmps26
  go_wp2_with fail
  refine (sliceCap_32 n (by omega) w).mono ?_
  rintro e w' ⟨rfl, rfl⟩
  go_wp2_with fail
  refine (newReader _ A ls cs rfl _).mono ?_
  rintro e w' ⟨rfl, rfl⟩
  go_wp2_with fail
  rw [← hw1]
  clear hw1
  go_loopw [16, 18] (fun v i wr => ∃ (k : Nat), k ≤ n ∧ i = .int .i64 k ∧ Hid (∀ j, j < k → mGood false big s t j = true) ∧ Hid (wr.ownsRow w.heap.size 94 5 v k (mRow false big s t k)) ∧ Hid (Rdr wr (.iface 105 (.pointer (some ⟨w.heap.size + 1, 0, none⟩))) (w.heap.size + 1) (fun x => ∃ a, A = some a ∧ a.block = x) s (12 * k)) ∧ Hid (Below w.heap.size w wr)) (fun _ i _ => n - (intOf i).toNat)
  case atStart => exact ⟨0, Nat.zero_le _, rfl, Lib.hid (fun j hj => absurd hj (Nat.not_lt_zero _)), own1, rd1, b1⟩
  case round =>
    obtain ⟨k, hk, rfl, hgood, hown, hrd, hbl⟩ := hrel
    have hz := hbl.out.size
    have d0 : wr.cell? ⟨Fp, fo, none⟩ = some (.int .u32 mg) := (hbl.out.cell (p := ⟨Fp, fo, none⟩) hFl).trans hc0
    have dh : wr.cell? ⟨Hp, ho + 3, none⟩ = some (.int .u32 n) := (hbl.out.cell (p := ⟨Hp, ho + 3, none⟩) hHl).trans hh3
    by_cases hkn : k < n
    · have hki : (k : Int) < (n : Int) := by omega
      have hd00 := d0
      have bV : Below wr.heap.size wr ((wr.alloc (.cells #[.int .u32 0, .int .u8 0, .int .u8 0, .int .u16 0, .int .u64 0] 113)).alloc (.cells #[.int .u32 0, .int .u8 0, .int .u8 0, .int .u16 0, .int .u32 0] 116)) := ((Below.refl _ _).alloc (Nat.le_refl _) _).alloc (by simp) _
      have gV0 := Lib.hid (heap_alloc2_old wr (.cells #[.int .u32 0, .int .u8 0, .int .u8 0, .int .u16 0, .int .u64 0] 113) (.cells #[.int .u32 0, .int .u8 0, .int .u8 0, .int .u16 0, .int .u32 0] 116))
      have gV := Lib.hid (heap_alloc2_new wr (.cells #[.int .u32 0, .int .u8 0, .int .u8 0, .int .u16 0, .int .u64 0] 113) (.cells #[.int .u32 0, .int .u8 0, .int .u8 0, .int .u16 0, .int .u32 0] 116))
      have rdV := Lib.hid (hrd.out.later bV)
      have ownV := Lib.hid ((hown.out.alloc (.cells #[.int .u32 0, .int .u8 0, .int .u8 0, .int .u16 0, .int .u64 0] 113)).alloc (.cells #[.int .u32 0, .int .u8 0, .int .u8 0, .int .u16 0, .int .u32 0] 116))
      have hMlt : w.heap.size + 1 < wr.heap.size := hrd.out.lt
      have hDV : Hid (¬ ∃ a, A = some a ∧ a.block = wr.heap.size + 1) := Lib.hid (fun ⟨a, ha, e⟩ => by have := hAl.out a ha; omega)
      have eV := Lib.hid (hErr.out.chg (Chg.of_below (S := fun k => w.heap.size ≤ k) (hbl.out.trans (bV.mono hz)) (fun k _ h => h)) (by omega) (by omega))
      have d0a : (wr.alloc (.cells #[.int .u32 0, .int .u8 0, .int .u8 0, .int .u16 0, .int .u64 0] 113)).cell? ⟨Fp, fo, none⟩ = some (.int .u32 mg) := (((Below.refl wr.heap.size wr).alloc (Nat.le_refl _) (.cells #[.int .u32 0, .int .u8 0, .int .u8 0, .int .u16 0, .int .u64 0] 113)).cell (p := ⟨Fp, fo, none⟩) (by simp only; omega)).trans d0
      replace bV := Lib.hid bV
      by_cases hsh : 12 * k + 12 ≤ s.length
      · have CALL := Lib.hid (readRNlist32_all (wr.heap.size + 1) (w.heap.size + 1) (.iface 105 (.pointer (some ⟨w.heap.size + 1, 0, none⟩))) (fun x => ∃ a, A = some a ∧ a.block = x) s (12 * k) big 116 ((wr.alloc (.cells #[.int .u32 0, .int .u8 0, .int .u8 0, .int .u16 0, .int .u64 0] 113)).alloc (.cells #[.int .u32 0, .int .u8 0, .int .u8 0, .int .u16 0, .int .u32 0] 116)) rdV (Lib.hid hsh) (by omega) hDV gV)
        rw [fR32_eq] at CALL
        have hms := Lib.hid (mRow_succ false big s t k)
        have hcells : mCells false big s t k = [.string ⟨(mText false big s t k).toArray⟩, .int .u8 (mTy false big s k : Int), .int .u8 (mSe false big s k : Int), .int .u16 (mDe false big s k : Int), .int .u64 (mVa false big s k : Int)] := rfl
        rw [hcells] at hms
        have htx : mText false big s t k = strip (text (t.drop (mNm false big s k))) := rfl
        have hgk : mGood false big s t k = decide (mNm false big s k < t.length) := by
          unfold mGood
          rw [decide_eq_true (show symW false * (k + 1) ≤ s.length by show 12 * (k + 1) ≤ s.length; omega), Bool.true_and]
        have hnl : mNm false big s k < 4294967296 := num1_lt big _ 4 4294967296 (by decide)
        have hvl : mVa false big s k < 4294967296 := num1_lt big _ 4 4294967296 (by decide)
        generalize mNm false big s k = nm at *
        generalize mTy false big s k = ty at *
        generalize mSe false big s k = se at *
        generalize mDe false big s k = de at *
        generalize mVa false big s k = va at *
        generalize mText false big s t k = nx at *
        have q5 : IntKind.u64.wrap (va : Int) = (va : Int) := IntWalk.u64_in _ (by omega)
        replace hvl := Lib.hid hvl
        clear hcells gV rdV
        go_wp2_with fail
        refine CALL.out.mono ?_
        rintro e w2 ⟨rfl, rd2, g2, C2⟩
        have own2 : Hid (w2.ownsRow w.heap.size 94 5 u16 k (mRow false big s t k)) := Lib.hid (owns_chg ownV.out C2 (fun q hq e => by
          rcases e with e | e
          · obtain ⟨_, _, _, _, _, _, _, hrow, _, _⟩ := hrd.out.is
            exact owns_ne hown.out hrow (by decide) (by rw [hq, e])
          · have := (hown.out.lt q hq).2; omega))
        have b2 := Lib.hid ((hbl.out.trans (bV.out.mono hz)).trans (C2.below (B := w.heap.size) (by simp; omega) (fun q hq e => by rcases e with e | e <;> omega)))
        clear CALL ownV bV
        have gV2 := C2.row gV0.out (by omega)
        obtain ⟨g3', C3⟩ := row_sets (R := wr.heap.size) (o := 0) (pre := []) (post := []) (T := 113) rfl [(0, .int .u32 (nm : Int)), (1, .int .u8 (ty : Int)), (2, .int .u8 (se : Int)), (3, .int .u16 (de : Int)), (4, .int .u64 (va : Int))] [.int .u32 0, .int .u8 0, .int .u8 0, .int .u16 0, .int .u64 0] w2 (by simp) (by rw [List.append_nil]; exact gV2)
        have x0 := World.cell?_of_row g2.out 0 _ rfl
        have y0 := World.cell?_of_row (l := [.int .u32 0, .int .u8 0, .int .u8 0, .int .u16 0, .int .u64 0]) gV2 0 _ rfl
        have z0 := frozen_of_row _ wr.heap.size 0 _ _ gV2
        have x1 := World.cell?_of_row g2.out 1 _ rfl
        have y1 := World.cell?_of_row (l := [.int .u32 0, .int .u8 0, .int .u8 0, .int .u16 0, .int .u64 0]) gV2 1 _ rfl
        have z1 := frozen_of_row _ wr.heap.size 1 _ _ gV2
        have x2 := World.cell?_of_row g2.out 2 _ rfl
        have y2 := World.cell?_of_row (l := [.int .u32 0, .int .u8 0, .int .u8 0, .int .u16 0, .int .u64 0]) gV2 2 _ rfl
        have z2 := frozen_of_row _ wr.heap.size 2 _ _ gV2
        have x3 := World.cell?_of_row g2.out 3 _ rfl
        have y3 := World.cell?_of_row (l := [.int .u32 0, .int .u8 0, .int .u8 0, .int .u16 0, .int .u64 0]) gV2 3 _ rfl
        have z3 := frozen_of_row _ wr.heap.size 3 _ _ gV2
        have x4 := World.cell?_of_row g2.out 4 _ rfl
        have y4 := World.cell?_of_row (l := [.int .u32 0, .int .u8 0, .int .u8 0, .int .u16 0, .int .u64 0]) gV2 4 _ rfl
        have z4 := frozen_of_row _ wr.heap.size 4 _ _ gV2
        obtain ⟨w3, hw3⟩ : ∃ w3, w3 = (((((w2.setCell ⟨wr.heap.size, 0, none⟩ (.int .u32 (nm : Int))).setCell ⟨wr.heap.size, 1, none⟩ (.int .u8 (ty : Int))).setCell ⟨wr.heap.size, 2, none⟩ (.int .u8 (se : Int))).setCell ⟨wr.heap.size, 3, none⟩ (.int .u16 (de : Int))).setCell ⟨wr.heap.size, 4, none⟩ (.int .u64 (va : Int))) := ⟨_, rfl⟩
        have g3 : Hid (w3.heap[wr.heap.size]? = some (.cells #[.int .u32 (nm : Int), .int .u8 (ty : Int), .int .u8 (se : Int), .int .u16 (de : Int), .int .u64 (va : Int)] 113 (0, 0))) := Lib.hid (by rw [hw3]; exact g3')
        have C3' : Chg (· = wr.heap.size) w2 w3 := by rw [hw3]; exact C3
        have own3 : Hid (w3.ownsRow w.heap.size 94 5 u16 k (mRow false big s t k)) := Lib.hid (owns_chg own2.out C3' (fun q hq e => by have := (hown.out.lt q hq).2; omega))
        have rd3 : Hid (Rdr w3 (.iface 105 (.pointer (some ⟨w.heap.size + 1, 0, none⟩))) (w.heap.size + 1) (fun x => ∃ a, A = some a ∧ a.block = x) s (12 * (k + 1))) := Lib.hid (rd2.out.chg C3' (by omega) (fun q hq e => by obtain ⟨a, ha, e2⟩ := hq; have := hAl.out a ha; omega))
        have b3 := Lib.hid (b2.out.trans (C3'.below (B := w.heap.size) b2.out.size (fun q hq e => by omega)))
        have hs23 : wr.heap.size < w3.heap.size := (Array.getElem?_eq_some_iff.1 g3.out).1
        have hne12 : ¬ wr.heap.size + 1 = wr.heap.size := by omega
        have hne21 : ¬ wr.heap.size = wr.heap.size + 1 := by omega
        clear g3' C3 C3' own2 rd2 b2 gV2 gV0 C2 g2
        have v0 := World.cell?_of_row g3.out 0 _ rfl
        have v1 := World.cell?_of_row g3.out 1 _ rfl
        have v2 := World.cell?_of_row g3.out 2 _ rfl
        have v3 := World.cell?_of_row g3.out 3 _ rfl
        have v4 := World.cell?_of_row g3.out 4 _ rfl
        have hge : Hid (∀ q, u16.ownBlock = some q → w.heap.size ≤ q) := Lib.hid (fun q hq => (own3.out.lt q hq).1)
        have hneM : Hid (¬ u16.ownBlock = some (w.heap.size + 1)) := Lib.hid (by
          obtain ⟨_, _, _, _, _, _, _, hrow, _, _⟩ := rd3.out.is
          exact owns_ne own3.out hrow (by decide))
        have hneD : Hid (∀ q, (∃ a, A = some a ∧ a.block = q) → ¬ u16.ownBlock = some q) := Lib.hid (fun q hq e => by obtain ⟨a, ha, e2⟩ := hq; have := hAl.out a ha; have := hge.out q e; omega)
        have hz3 := b3.out.size
        by_cases hnt : nm < lt
        · have hcmp : ¬ (lt : Int) ≤ (nm : Int) := by omega
          have hgood1 : Hid (∀ j, j < k + 1 → mGood false big s t j = true) := Lib.hid (fun j hj => by
            by_cases hjk : j < k
            · exact hgood.out j hjk
            · obtain rfl : j = k := by omega
              rw [hgk, decide_eq_true (by have := hT.out; omega)])
          have hsl : ∀ W, (Instr.slice 23 (.slice B lt ct) (some (.int .u32 (nm : Int))) none none).run Tryd.prog W = .ok (.slice (slA B ct nm) (lt - nm) (ct - nm)) W := fun W => run_slice_from (P := Tryd.prog) Tryd.underlying23 (info_parts Tryd.infoByte).choose_spec.1 (info_parts Tryd.infoByte).choose_spec.2.2.1 B lt ct nm .u32 (by omega) W
          have hn0 : (0 : Int) ≤ (nm : Int) := by omega
          have hn1 : (nm : Int) ≤ (lt : Int) := by omega
          have Bd : Hid (RB w3 (slA B ct nm) (t.drop nm)) := Lib.hid ((hB.out.below b3.out (fun a ha h0 => RB.ltA hB.out (List.length_pos_iff.2 h0) a ha)).drop (c := ct) (by rw [← hT.out]; exact hct) nm)
          have CS := Lib.hid (cstring_any (slA B ct nm) (t.drop nm) (lt - nm) (ct - nm) (by rw [List.length_drop, ← hT.out]) (by omega) w3 Bd.out)
          have hxs : (text (t.drop nm)).length ≤ lt := by
            have h1 := text_le (t.drop nm)
            rw [List.length_drop, ← hT.out] at h1
            omega
          obtain ⟨S, hSx⟩ : ∃ S : ByteArray, S = ⟨(text (t.drop nm)).toArray⟩ := ⟨_, rfl⟩
          have hSl : S.data.toList = text (t.drop nm) := by rw [hSx]
          have hSz : S.size ≤ 2147483647 := by
            have : S.size = S.data.toList.length := by simp
            rw [this, hSl]
            omega
          rw [← hSx] at CS
          rw [← hSl] at htx
          have DT := Lib.hid (zzContains_dot S hSz w3)
          clear hSl hSx hxs hgk Bd
          go_wp2_with fail
          rw [← hw3]
          clear hw3
          refine CS.out.mono ?_
          rintro e w' ⟨rfl, rfl⟩
          go_wp2_with fail
          refine DT.out.mono ?_
          rintro e w' ⟨rfl, rfl⟩
          by_cases hdt : dot S.data.toList = true
          · have hS0 : 0 < S.size := by have := dot_pos hdt; simpa using this
            have hb := head_byte S hS0
            by_cases h95 : (S.data.toList.head? == some 95) = true
            · have hst : nx = S.data.toList.drop 1 := by rw [htx]; unfold strip dotted; rw [h95, hdt]; rfl
              rw [h95] at hb
              have hs1 := strip_slice S (by omega)
              rw [← hst] at hs1
              rw [hdt]
              clear htx hst h95 hdt DT CS
              have ownA := Lib.hid (own3.out.alloc (.cells #[.string ⟨nx.toArray⟩, .int .u8 (ty : Int), .int .u8 (se : Int), .int .u16 (de : Int), .int .u64 (va : Int)] 94))
              go_wp2_with (at_builtin; refine Stop.mk ?_)
              refine Stop.go ?_
              refine wpList_append_any rfl (.tmp 117) (.tmp 128) 52 rfl w.heap.size 94 i0 _ 5 32 Tryd.underlying52 hi hz0 hz1 hz2 rfl (by omega) _ k _ rfl ownA.out (some ⟨w3.heap.size, 0, none⟩) 1 1 [.string ⟨nx.toArray⟩, .int .u8 (ty : Int), .int .u8 (se : Int), .int .u16 (de : Int), .int .u64 (va : Int)] rfl (rc_newN rfl rfl) (List.all_eq_true.1 rfl) (by simp only [maxLen]; omega) (by omega) (by simp; omega) ?_
              intro v5 w5 own5 g5 at5
              have C5 := Lib.hid (((Chg.refl (fun q => u16.ownBlock = some q) w3).alloc (.cells #[.string ⟨nx.toArray⟩, .int .u8 (ty : Int), .int .u8 (se : Int), .int .u16 (de : Int), .int .u64 (va : Int)] 94)).grown g5 (fun q e => .inl e))
              have rd5 : Hid (Rdr w5 (.iface 105 (.pointer (some ⟨w.heap.size + 1, 0, none⟩))) (w.heap.size + 1) (fun x => ∃ a, A = some a ∧ a.block = x) s (12 * (k + 1))) := Lib.hid (rd3.out.chg C5.out hneM.out (fun q hq e => hneD.out q hq e))
              have b5 := Lib.hid (b3.out.trans (C5.out.below (B := w.heap.size) b3.out.size (fun q hq e => by have := hge.out q e; omega)))
              rw [← hms.out] at own5
              replace own5 := Lib.hid own5
              clear g5 at5 C5 ownA own3 rd3 b3 hown hrd hbl hgood g3 v0 v1 v2 v3 v4
              go_wp2
              go_roundw
              case rel => exact ⟨k + 1, by omega, by go_num, hgood1, own5, rd5, b5⟩
              case measure => simp [intOf]; omega
            · have h95' : (S.data.toList.head? == some 95) = false := by simpa using h95
              have hst : nx = S.data.toList := by rw [htx]; unfold strip dotted; rw [h95']; rfl
              rw [h95'] at hb
              rw [hdt]
              have hS : S = ⟨nx.toArray⟩ := by rw [hst]
              rw [← hS] at hms
              clear htx hst h95 hdt h95' DT CS hS
              have ownA := Lib.hid (own3.out.alloc (.cells #[.string S, .int .u8 (ty : Int), .int .u8 (se : Int), .int .u16 (de : Int), .int .u64 (va : Int)] 94))
              go_wp2_with (at_builtin; refine Stop.mk ?_)
              refine Stop.go ?_
              refine wpList_append_any rfl (.tmp 117) (.tmp 128) 52 rfl w.heap.size 94 i0 _ 5 32 Tryd.underlying52 hi hz0 hz1 hz2 rfl (by omega) _ k _ rfl ownA.out (some ⟨w3.heap.size, 0, none⟩) 1 1 [.string S, .int .u8 (ty : Int), .int .u8 (se : Int), .int .u16 (de : Int), .int .u64 (va : Int)] rfl (rc_newN rfl rfl) (List.all_eq_true.1 rfl) (by simp only [maxLen]; omega) (by omega) (by simp; omega) ?_
              intro v5 w5 own5 g5 at5
              have C5 := Lib.hid (((Chg.refl (fun q => u16.ownBlock = some q) w3).alloc (.cells #[.string S, .int .u8 (ty : Int), .int .u8 (se : Int), .int .u16 (de : Int), .int .u64 (va : Int)] 94)).grown g5 (fun q e => .inl e))
              have rd5 : Hid (Rdr w5 (.iface 105 (.pointer (some ⟨w.heap.size + 1, 0, none⟩))) (w.heap.size + 1) (fun x => ∃ a, A = some a ∧ a.block = x) s (12 * (k + 1))) := Lib.hid (rd3.out.chg C5.out hneM.out (fun q hq e => hneD.out q hq e))
              have b5 := Lib.hid (b3.out.trans (C5.out.below (B := w.heap.size) b3.out.size (fun q hq e => by have := hge.out q e; omega)))
              rw [← hms.out] at own5
              replace own5 := Lib.hid own5
              clear g5 at5 C5 ownA own3 rd3 b3 hown hrd hbl hgood g3 v0 v1 v2 v3 v4
              go_wp2
              go_roundw
              case rel => exact ⟨k + 1, by omega, by go_num, hgood1, own5, rd5, b5⟩
              case measure => simp [intOf]; omega
          · have hdt' : dot S.data.toList = false := by simpa using hdt
            have hst : nx = S.data.toList := by rw [htx]; unfold strip dotted; rw [hdt', Bool.and_false]; rfl
            rw [hdt']
            have hS : S = ⟨nx.toArray⟩ := by rw [hst]
            rw [← hS] at hms
            clear htx hst hdt hdt' DT CS hS
            have ownA := Lib.hid (own3.out.alloc (.cells #[.string S, .int .u8 (ty : Int), .int .u8 (se : Int), .int .u16 (de : Int), .int .u64 (va : Int)] 94))
            go_wp2_with (at_builtin; refine Stop.mk ?_)
            refine Stop.go ?_
            refine wpList_append_any rfl (.tmp 117) (.tmp 128) 52 rfl w.heap.size 94 i0 _ 5 32 Tryd.underlying52 hi hz0 hz1 hz2 rfl (by omega) _ k _ rfl ownA.out (some ⟨w3.heap.size, 0, none⟩) 1 1 [.string S, .int .u8 (ty : Int), .int .u8 (se : Int), .int .u16 (de : Int), .int .u64 (va : Int)] rfl (rc_newN rfl rfl) (List.all_eq_true.1 rfl) (by simp only [maxLen]; omega) (by omega) (by simp; omega) ?_
            intro v5 w5 own5 g5 at5
            have C5 := Lib.hid (((Chg.refl (fun q => u16.ownBlock = some q) w3).alloc (.cells #[.string S, .int .u8 (ty : Int), .int .u8 (se : Int), .int .u16 (de : Int), .int .u64 (va : Int)] 94)).grown g5 (fun q e => .inl e))
            have rd5 : Hid (Rdr w5 (.iface 105 (.pointer (some ⟨w.heap.size + 1, 0, none⟩))) (w.heap.size + 1) (fun x => ∃ a, A = some a ∧ a.block = x) s (12 * (k + 1))) := Lib.hid (rd3.out.chg C5.out hneM.out (fun q hq e => hneD.out q hq e))
            have b5 := Lib.hid (b3.out.trans (C5.out.below (B := w.heap.size) b3.out.size (fun q hq e => by have := hge.out q e; omega)))
            rw [← hms.out] at own5
            replace own5 := Lib.hid own5
            clear g5 at5 C5 ownA own3 rd3 b3 hown hrd hbl hgood g3 v0 v1 v2 v3 v4
            go_wp2
            go_roundw
            case rel => exact ⟨k + 1, by omega, by go_num, hgood1, own5, rd5, b5⟩
            case measure => simp [intOf]; omega
        · have hcmp : (lt : Int) ≤ (nm : Int) := by omega
          have hbad : Hid (∀ T x w', ParsePost false big s t n (.slice C ln cn) w (.returned (.tuple #[.pointer none, .iface T x])) w') := Lib.hid (fun T x w' => .inr ⟨⟨k, hkn, by rw [hgk, decide_eq_false (by have := hT.out; omega)]⟩, T, x, rfl⟩)
          clear hgk htx hown hrd hgood own3 rd3
          go_wp2_with fail
          rw [← hw3]
          clear hw3
          go_region_held3 (fun w' => w'.cell? ⟨wr.heap.size, 0, none⟩ = some (.int .u32 (nm : Int))) (first | exact v0 | go_keep) (fail)
          go_wp2
          go_ret2
          exact ⟨hbad.out _ _ _, (b3.out.alloc hz3 _).drew⟩
      · have hbad : Hid (∀ T x w', ParsePost false big s t n (.slice C ln cn) w (.returned (.tuple #[.pointer none, .iface T x])) w') := Lib.hid (fun T x w' => .inr ⟨⟨k, hkn, by
          unfold mGood
          rw [decide_eq_false (show ¬ symW false * (k + 1) ≤ s.length by show ¬ 12 * (k + 1) ≤ s.length; omega)]
          rfl⟩, T, x, rfl⟩)
        have CALL := Lib.hid (readRNlist32_short (wr.heap.size + 1) (w.heap.size + 1) (.iface 105 (.pointer (some ⟨w.heap.size + 1, 0, none⟩))) (fun x => ∃ a, A = some a ∧ a.block = x) s (12 * k) big ((wr.alloc (.cells #[.int .u32 0, .int .u8 0, .int .u8 0, .int .u16 0, .int .u64 0] 113)).alloc (.cells #[.int .u32 0, .int .u8 0, .int .u8 0, .int .u16 0, .int .u32 0] 116)) TE TU vE vU eV rdV (Lib.hid (by omega)))
        clear hown hrd hgood ownV rdV gV hsh
        go_wp2_with fail
        refine CALL.out.mono ?_
        rintro e w2 ⟨⟨T, x, rfl⟩, C2⟩
        have b2 := Lib.hid ((hbl.out.trans (bV.out.mono hz)).trans (C2.below (B := w.heap.size) (by simp; omega) (fun q hq e => by omega)))
        clear C2 CALL
        go_wp2
        go_ret2
        exact ⟨hbad.out _ _ _, b2.out⟩
    · obtain rfl : k = n := by omega
      obtain ⟨SA, sc, rfl, -, -, -⟩ := RT.of_owns hown.out
      have gS := Lib.hid (heap_alloc_new wr (.cells #[.slice C ln cn, .int .u32 0, .int .u32 0, .int .u32 0, .int .u32 0, .int .u32 0, .int .u32 0, .slice SA k sc] 93))
      have hfin : Hid (ParsePost false big s t k (.slice C ln cn) w (.returned (.tuple #[.pointer (some ⟨wr.heap.size, 0, none⟩), .nilIface])) (wr.alloc (.cells #[.slice C ln cn, .int .u32 0, .int .u32 0, .int .u32 0, .int .u32 0, .int .u32 0, .int .u32 0, .slice SA k sc] 93))) := Lib.hid (.inl ⟨hgood.out, _, _, rfl, gS, Lib.hid hz, Lib.hid (hown.out.alloc _)⟩)
      have b9 := Lib.hid (hbl.out.alloc hz (.cells #[.slice C ln cn, .int .u32 0, .int .u32 0, .int .u32 0, .int .u32 0, .int .u32 0, .int .u32 0, .slice SA k sc] 93))
      clear hown hrd hgood gS
      go_wp2
      go_ret2
      exact ⟨hfin.out, b9.out⟩
end Go.Proofs.YtmgmmdhaklokjaaDoor
