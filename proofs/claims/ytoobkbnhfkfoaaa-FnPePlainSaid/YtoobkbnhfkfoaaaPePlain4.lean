/-
  Symbols as plain data: the contract of PePlain.
-/
import Derived.Test.YtoobkbnhfkfoaaaPePlain3
namespace Go.Proofs.Ytoobkbnhfkfoaaa
set_option linter.unusedVariables false
set_option linter.unusedSimpArgs false
open Go Go.RowKit
attribute [local go_sem ↓] Go.wp_at_zero Go.wp_at_succ

set_option maxHeartbeats 1000000 in
theorem zzRemAux_nil (A S : Option Addr) (c n k : Nat) (w : World) : Calls Try.prog 11 #[.slice A 0 c, .slice S n k] w fun e w' => e = .returned (.tuple #[.slice none 0 0, .nilIface]) ∧ w = w' := by
  go_enter Try.func11, Try.ntmps11
  go_wp2_with fail
  refine (remAux_nil A S c n k w).mono ?_
  rintro e w' ⟨rfl, rfl⟩
  go_wp2
  go_ret2
  exact ⟨rfl, rfl⟩

set_option maxRecDepth 100000 in
set_option maxHeartbeats 1000000 in
theorem zzRemAux_any (g n cap : Nat) (l : List UInt8) (A : Option Addr) (t : List UInt8) (tn tc : Nat) (w : World) (hn0 : 0 < n) (hn : n ≤ 300) (hl : Hid (18 * n ≤ l.length)) (hT : RB w A t) (htn : Hid (tn = t.length)) (htc : tn ≤ tc) (htb : tn ≤ 2147483647)
    (hglt : g < w.heap.size) (hcl : Hid (∀ (k : Nat), k < n → ∀ (j : Nat) (u : Value), (symCells (csAt l k))[j]? = some u → w.cell? ⟨g, k * 13 + j, none⟩ = some u)) :
    Calls Try.prog 11 #[.slice (some ⟨g, 0, none⟩) n cap, .slice A tn tc] w fun e w' => RemPost l t n w e w' ∧ Below w.heap.size w w' := by
  have CALL := Lib.hid (remAux_any g n cap l A t tn tc w hn0 hn hl hT htn htc htb hglt hcl)
  clear hT
  go_enter Try.func11, Try.ntmps11
  go_wp2_with fail
  refine CALL.out.mono ?_
  rintro e w2 ⟨hp, b2⟩
  have hq := Lib.hid hp
  replace b2 := Lib.hid b2
  rcases hp with ⟨hall, v, vs, rfl, hown, hrec⟩ | ⟨hbad, T, v, rfl⟩
  · clear hall hown hrec
    go_wp2
    go_ret2
    exact ⟨hq.out, b2.out⟩
  · clear hbad
    go_wp2
    go_ret2
    exact ⟨hq.out, b2.out⟩

/-- What PePlain gives back. -/
def PlainPost (l t : List UInt8) (n : Nat) (w : World) (e : Ending) (w' : World) : Prop :=
  ((∀ k ∈ (rem (auxAt l) n).1, (symRes (csAt l k).name t).2 = true) ∧ ∃ v vs, e = .returned (.tuple #[v, .bool true]) ∧ Hid (w'.ownsRow w.heap.size 41 5 v (rem (auxAt l) n).1.length vs) ∧ Hid (Recs (fun _ vs c => vs = plainCells t c) w' 5 (rem (auxAt l) n).1.length vs ((rem (auxAt l) n).1.map (csAt l)))) ∨
  ((∃ k ∈ (rem (auxAt l) n).1, (symRes (csAt l k).name t).2 = false) ∧ e = .returned (.tuple #[.slice none 0 0, .bool false]))

set_option maxRecDepth 100000 in
set_option maxHeartbeats 1000000 in
theorem implPlain_nil (A : Option Addr) (c : Nat) (l : List UInt8) (B : Option Addr) (t : List UInt8) (tn tc : Nat) (w : World) (hT : RB w B t) (htn : Hid (tn = t.length)) (htb : tn ≤ 2147483647) :
    Calls Try.prog 6 #[.slice A 0 c, .slice B tn tc] w fun e w' => PlainPost l t 0 w e w' ∧ Below w.heap.size w w' := by
  go_enter Try.func6, Try.ntmps6
  go_wp2
  refine wp_loop_rounds 1 ?_
  rw [rounds_succ]
  go_wp2_with fail
  refine (copied_any B t tn tc htn.out htb w hT).mono ?_
  rintro e w1 ⟨⟨v, rfl, hown⟩, b1⟩
  obtain ⟨-, T1, c1, rfl, R1, hc1, -, -, -⟩ := RB.of_owns hown
  clear hown R1
  replace b1 := Lib.hid b1
  go_wp2_with fail
  refine (zzRemAux_nil _ T1 _ tn c1 w1).mono ?_
  rintro e w' ⟨rfl, rfl⟩
  go_wp2_with fail
  refine (plainOf_nil none 0 w1).mono ?_
  rintro e w' ⟨rfl, rfl⟩
  have hpost : Hid (PlainPost l t 0 w (.returned (.tuple #[.slice none 0 0, .bool true])) w1) := Lib.hid (.inl ⟨(fun k hk => by cases hk), _, [], rfl, Lib.hid (World.ownsRow_nil _ _ _ _), Lib.hid (Recs.nil _ _ _)⟩)
  go_wp2
  go_ret2
  exact ⟨hpost.out, b1.out⟩

set_option maxRecDepth 100000 in
set_option maxHeartbeats 2000000 in
theorem implPlain_some (g n cap : Nat) (l : List UInt8) (rows : List Value) (B : Option Addr) (t : List UInt8) (tn tc : Nat) (w : World) (hn0 : 0 < n) (hn : n ≤ 300) (hl : Hid (18 * n ≤ l.length)) (hT : RB w B t) (htn : Hid (tn = t.length)) (htb : tn ≤ 2147483647)
    (hglt : g < w.heap.size) (hcl : Hid (∀ j u, rows[j]? = some u → w.cell? ⟨g, j, none⟩ = some u)) (hrec : Hid (Recs IsCoffK w 6 n rows (coffsL l n))) :
    Calls Try.prog 6 #[.slice (some ⟨g, 0, none⟩) n cap, .slice B tn tc] w fun e w' => PlainPost l t n w e w' ∧ Below w.heap.size w w' := by
  obtain ⟨i0, hi, hz0, hz1, hz2⟩ := info_parts Try.infoCoffSym
  have hinfo : (Try.prog.info? 49).map (·.size) = some 13 := by kernel_rfl
  replace hinfo := Lib.hid hinfo
  go_enter Try.func6, Try.ntmps6
  go_wp2
  go_loopw [6, 15] (fun v i wr => ∃ (k : Nat), k ≤ n ∧ i = .int .i64 k ∧ Hid (wr.ownsRow w.heap.size 49 13 v k (((List.range k).map (fun j => symCells (csAt l j))).flatten)) ∧ Hid (Below w.heap.size w wr)) (fun _ i _ => n - (intOf i).toNat)
  case atStart => exact ⟨0, Nat.zero_le _, rfl, Lib.hid (World.ownsRow_nil _ _ _ _), Lib.hid (Below.refl _ _)⟩
  case round =>
    obtain ⟨k, hk, rfl, hown, hbl⟩ := hrel
    have hz := hbl.out.size
    by_cases hkn : k < n
    · obtain ⟨c, x, hx, hlc, ⟨NA, kA, rfl, hk8, h8, hR⟩, hat⟩ := hrec.out.get hkn
      rw [coffsL_at l n k hkn] at hx
      obtain rfl := Option.some.inj hx
      have hfl : ((List.range (k + 1)).map (fun j => symCells (csAt l j))).flatten = ((List.range k).map (fun j => symCells (csAt l j))).flatten ++ symCells (csAt l k) := by simp [List.range_succ]
      replace hfl := Lib.hid hfl
      have hNA := Lib.hid (hR.bytes.later hbl.out)
      obtain ⟨x, hx⟩ : ∃ x, csAt l k = x := ⟨_, rfl⟩
      rw [hx] at hfl hNA hat h8
      clear hx hR hlc
      obtain ⟨nm, x1, x2, x3, x4, x5⟩ := x
      have hc := fun (i : Nat) (u : Value) (h : ((.slice NA 8 kA :: symTail ⟨nm, x1, x2, x3, x4, x5⟩) : List Value)[i]? = some u) => (hbl.out.cell (p := ⟨g, k * 6 + i, none⟩) hglt).trans (hcl.out _ u (hat i u h))
      have d0 : wr.cell? ⟨g, k * 6, none⟩ = some (.slice NA 8 kA) := hc 0 _ rfl
      have d1 : wr.cell? ⟨g, k * 6 + 1, none⟩ = some (.int .u32 x1) := hc 1 _ rfl
      have d2 : wr.cell? ⟨g, k * 6 + 2, none⟩ = some (.int .i16 x2) := hc 2 _ rfl
      have d3 : wr.cell? ⟨g, k * 6 + 3, none⟩ = some (.int .u16 x3) := hc 3 _ rfl
      have d4 : wr.cell? ⟨g, k * 6 + 4, none⟩ = some (.int .u8 x4) := hc 4 _ rfl
      have d5 : wr.cell? ⟨g, k * 6 + 5, none⟩ = some (.int .u8 x5) := hc 5 _ rfl
      have hji0 : (0 : Int) ≤ (k : Int) := by omega
      have hji1 : (k : Int) < (n : Int) := by omega
      clear hc hat
      have own1 := Lib.hid (hown.out.alloc (.cells #[.slice NA 8 kA, .int .u32 x1, .int .i16 x2, .int .u16 x3, .int .u8 x4, .int .u8 x5] 45))
      have bk := Lib.hid ((Below.refl wr.heap.size wr).alloc (Nat.le_refl _) (.cells #[.slice NA 8 kA, .int .u32 x1, .int .i16 x2, .int .u16 x3, .int .u8 x4, .int .u8 x5] 45))
      have hNA1 := Lib.hid (hNA.out.later bk.out)
      have CALL := Lib.hid (coffTo_ok NA kA ⟨nm, x1, x2, x3, x4, x5⟩ _ h8 hk8 hNA1.out)
      simp only [symTail] at CALL
      have h8' := Lib.hid h8
      clear h8
      obtain ⟨y0, y1, y2, y3, y4, y5, y6, y7, rfl⟩ := name8 h8'.out
      simp only [symCells, symTail, List.map_cons, List.map_nil, List.cons_append, List.nil_append, bv] at CALL
      go_wp2_with fail
      refine CALL.out.mono ?_
      rintro e w2 ⟨rfl, b2⟩
      have own2 := Lib.hid (owns_later own1.out b2)
      have b3 := Lib.hid (bk.out.trans (b2.mono bk.out.size))
      clear CALL own1 bk b2
      have hz3 := b3.out.size
      have own3 := Lib.hid ((own2.out.alloc (.cells #[.int .u8 (y0.toNat : Int), .int .u8 (y1.toNat : Int), .int .u8 (y2.toNat : Int), .int .u8 (y3.toNat : Int), .int .u8 (y4.toNat : Int), .int .u8 (y5.toNat : Int), .int .u8 (y6.toNat : Int), .int .u8 (y7.toNat : Int), .int .u32 x1, .int .i16 x2, .int .u16 x3, .int .u8 x4, .int .u8 x5] 49)).alloc (.cells #[.int .u8 (y0.toNat : Int), .int .u8 (y1.toNat : Int), .int .u8 (y2.toNat : Int), .int .u8 (y3.toNat : Int), .int .u8 (y4.toNat : Int), .int .u8 (y5.toNat : Int), .int .u8 (y6.toNat : Int), .int .u8 (y7.toNat : Int), .int .u32 x1, .int .i16 x2, .int .u16 x3, .int .u8 x4, .int .u8 x5] 49))
      go_wp2_with (at_builtin; refine Stop.mk ?_)
      refine Stop.go ?_
      refine wpList_append_any rfl (.tmp 26) (.tmp 28) 46 rfl w.heap.size 49 i0 _ 13 20 Try.underlying46 hi hz0 hz1 hz2 rfl (by omega) _ k _ rfl own3.out (some ⟨w2.heap.size + 1, 0, none⟩) 1 1 [.int .u8 (y0.toNat : Int), .int .u8 (y1.toNat : Int), .int .u8 (y2.toNat : Int), .int .u8 (y3.toNat : Int), .int .u8 (y4.toNat : Int), .int .u8 (y5.toNat : Int), .int .u8 (y6.toNat : Int), .int .u8 (y7.toNat : Int), .int .u32 x1, .int .i16 x2, .int .u16 x3, .int .u8 x4, .int .u8 x5] rfl (rc_newN (by simp) rfl) (List.all_eq_true.1 rfl) (by simp only [maxLen]; omega) (by omega) (by simp; omega) ?_
      intro v4 w4 own4 g4 at4
      have b4 := Lib.hid ((((hbl.out.trans (b3.out.mono hz)).alloc (by omega) (.cells #[.int .u8 (y0.toNat : Int), .int .u8 (y1.toNat : Int), .int .u8 (y2.toNat : Int), .int .u8 (y3.toNat : Int), .int .u8 (y4.toNat : Int), .int .u8 (y5.toNat : Int), .int .u8 (y6.toNat : Int), .int .u8 (y7.toNat : Int), .int .u32 x1, .int .i16 x2, .int .u16 x3, .int .u8 x4, .int .u8 x5] 49)).alloc (by simp; omega) (.cells #[.int .u8 (y0.toNat : Int), .int .u8 (y1.toNat : Int), .int .u8 (y2.toNat : Int), .int .u8 (y3.toNat : Int), .int .u8 (y4.toNat : Int), .int .u8 (y5.toNat : Int), .int .u8 (y6.toNat : Int), .int .u8 (y7.toNat : Int), .int .u32 x1, .int .i16 x2, .int .u16 x3, .int .u8 x4, .int .u8 x5] 49)).grown g4 (by simp; omega) (fun q hq => (own2.out.lt q hq).1))
      replace own4 := Lib.hid (show w4.ownsRow w.heap.size 49 13 v4 (k + 1) (((List.range (k + 1)).map (fun j => symCells (csAt l j))).flatten) from by rw [hfl.out]; exact own4)
      clear g4 at4 own3 own2 b3 hbl hown
      go_wp2
      go_roundw
      case rel => exact ⟨k + 1, by omega, by go_num, own4, b4⟩
      case measure => simp [intOf]; omega
    · obtain rfl : k = n := by omega
      obtain ⟨g3, cap3, rfl, hcap3, hge3, hlt3, hcl3⟩ := owns_cellsN hown.out hn0
      have hcl4 : Hid (∀ (i : Nat), i < k → ∀ (j : Nat) (u : Value), (symCells (csAt l i))[j]? = some u → wr.cell? ⟨g3, i * 13 + j, none⟩ = some u) := Lib.hid fun i hi j u hu => hcl3 _ _ (flatten_at _ 13 (fun c hc => by
        obtain ⟨q, hq, rfl⟩ := List.mem_map.1 hc
        have hq' : q < k := List.mem_range.1 hq
        have h8 : (csAt l q).name.length = 8 := coffL_eight (by have := hl.out; simp; omega)
        simp [symCells, symTail, h8]) i (symCells (csAt l i)) (by simp [hi]) j u hu)
      have hT1 := hT.later hbl.out
      clear hcl3 hown hcl hrec
      have hk0 : 0 < k := hn0
      go_wp2_with fail
      refine (copied_any B t tn tc htn.out htb wr hT1).mono ?_
      rintro e w1 ⟨⟨v, rfl, hown⟩, b1⟩
      obtain ⟨-, T1, c1, rfl, R1, hc1, -, -, -⟩ := RB.of_owns hown
      have hcl5 : Hid (∀ (i : Nat), i < k → ∀ (j : Nat) (u : Value), (symCells (csAt l i))[j]? = some u → w1.cell? ⟨g3, i * 13 + j, none⟩ = some u) := Lib.hid fun i hi j u hu => (b1.cell (p := ⟨g3, i * 13 + j, none⟩) hlt3).trans (hcl4.out i hi j u hu)
      have hz1' := b1.size
      have CALL := Lib.hid (zzRemAux_any g3 k cap3 l T1 t tn c1 w1 hn0 hn hl R1 htn hc1 htb (by omega) hcl5)
      have b2 := Lib.hid (hbl.out.trans (b1.mono hbl.out.size))
      clear hown R1 b1 hcl5 hcl4 hT1
      go_wp2_with fail
      refine CALL.out.mono ?_
      rintro e w2 ⟨hp, b3⟩
      have hzb := b2.out.size
      have b4 := Lib.hid (b2.out.trans (b3.mono hzb))
      have hz3 := b4.out.size
      clear b2 b3 CALL
      rcases hp with ⟨hall, v, vs, rfl, hown, hrec⟩ | ⟨hbad, T, v, rfl⟩
      · have hm : 0 < (rem (auxAt l) k).1.length := by
          have h0 : (0 : Nat) ∈ (rem (auxAt l) 1).1 := by simp [rem]
          have := rem_mono _ _ _ h0 (k - 1)
          rw [show 1 + (k - 1) = k by omega] at this
          exact List.length_pos_of_mem this
        have hmle : (rem (auxAt l) k).1.length ≤ 300 := Nat.le_trans (rem_len (auxAt l) k) hn
        obtain ⟨g5, cap5, rfl, hcap5, hge5, hlt5, hcl5⟩ := owns_cellsN hown.out hm
        have hfin : ∀ v w', (∃ vs, Hid (w'.ownsRow w.heap.size 41 5 v (rem (auxAt l) k).1.length vs) ∧ Hid (Recs (fun _ vs c => vs = plainCells t c) w' 5 (rem (auxAt l) k).1.length vs ((rem (auxAt l) k).1.map (csAt l)))) → PlainPost l t k w (.returned (.tuple #[v, .bool true])) w' := fun v w' ⟨vs, h1, h2⟩ => .inl ⟨hall, v, vs, rfl, h1, h2⟩
        replace hfin := Lib.hid hfin
        have hcx : Hid (∀ i x, ((rem (auxAt l) k).1.map (csAt l))[i]? = some x → ∃ p, w2.cell? ⟨g5, i, none⟩ = some (.pointer (some ⟨p, 0, none⟩)) ∧ w2.heap[p]? = some (.cells (plainCells t x).toArray 70 (0, 0))) := Lib.hid fun i x hx => by
          have hil : i < (rem (auxAt l) k).1.length := by have := (List.getElem?_eq_some_iff.1 hx).1; simpa using this
          obtain ⟨c, y, hy, hlc, ⟨p, rfl, hp⟩, hat⟩ := hrec.out.get hil
          obtain rfl := Option.some.inj (hy.symm.trans hx)
          exact ⟨p, hcl5 i _ (by have := hat 0 _ rfl; simpa using this), hp⟩
        clear hcl5 hrec hown hall
        have hxl : Hid (((rem (auxAt l) k).1.map (csAt l)).length = (rem (auxAt l) k).1.length) := Lib.hid (by simp)
        generalize (rem (auxAt l) k).1.map (csAt l) = xs at *
        generalize (rem (auxAt l) k).1.length = m at *
        go_wp2_with fail
        refine (plainOf_some g5 m cap5 t xs w2 hmle hlt5 hxl hcx).mono ?_
        rintro e w3 ⟨⟨v, vs, rfl, hown, hrec⟩, b5⟩
        have hend := hfin.out v w3 ⟨vs, Lib.hid (owns_mono hown.out hz3), hrec⟩
        have b6 := Lib.hid (b4.out.trans (b5.mono hz3))
        replace hend := Lib.hid hend
        clear hown hrec b5
        go_wp2
        go_ret2
        exact ⟨hend.out, b6.out⟩
      · have hend : Hid (∀ w', PlainPost l t k w (.returned (.tuple #[.slice none 0 0, .bool false])) w') := Lib.hid (fun w' => .inr ⟨hbad, rfl⟩)
        clear hbad
        go_wp2
        go_ret2
        exact ⟨hend.out _, b4.out⟩
end Go.Proofs.Ytoobkbnhfkfoaaa
