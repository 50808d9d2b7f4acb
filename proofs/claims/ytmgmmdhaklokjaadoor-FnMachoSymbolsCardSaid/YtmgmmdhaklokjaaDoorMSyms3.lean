/-
  Symbols of Mach-O as plain data: the contracts of symbolsOf, ZZParseSymtab, MachoSymbols.
-/
import Derived.Test.YtmgmmdhaklokjaaDoorMSyms1
import Derived.Test.YtmgmmdhaklokjaaDoorMSyms2
namespace Go.Proofs.YtmgmmdhaklokjaaDoor
set_option linter.unusedVariables false
set_option linter.unusedSimpArgs false
open Go Go.RowKit
attribute [local go_sem ↓] Go.wp_at_zero Go.wp_at_succ

theorem Tryd.infoISym : (Tryd.prog.info? 33).map (fun i => (i.zero, i.size, i.bytes)) = some (some (.agg #[.string ⟨#[]⟩, .int .u8 0, .int .u8 0, .int .u16 0, .int .u64 0]), 5, 32) := by kernel_rfl
theorem mCells_form (wide big : Bool) (s t : List UInt8) (k : Nat) : ∃ (nb : ByteArray) (ty se de va : Int), mCells wide big s t k = [.string nb, .int .u8 ty, .int .u8 se, .int .u16 de, .int .u64 va] := ⟨_, _, _, _, _, rfl⟩
/-- Where an owned row of symbols lies. -/
theorem syms_at {w : World} {base : Nat} {e : TypeId} {v : Value} {n : Nat} {wide big : Bool} {s t : List UInt8} (h : w.ownsRow base e 5 v n (mRow wide big s t n)) :
    ∃ A c, v = .slice A n c ∧ ∀ k, k < n → ∃ g, A = some ⟨g, 0, none⟩ ∧ base ≤ g ∧ g < w.heap.size ∧ ∀ i u, (mCells wide big s t k)[i]? = some u → w.cell? ⟨g, k * 5 + i, none⟩ = some u := by
  obtain ⟨A, c, rfl, -, -, -⟩ := RT.of_owns h
  refine ⟨A, c, rfl, fun k hk => ?_⟩
  obtain ⟨g, cap, hv, -, hb, hlt, hcl⟩ := owns_cellsN h (by omega)
  simp only [Value.slice.injEq] at hv
  obtain ⟨rfl, -, rfl⟩ := hv
  exact ⟨g, rfl, hb, hlt, fun i u hu => hcl _ u (mRow_at wide big s t n k hk i u hu)⟩

set_option maxRecDepth 100000 in
set_option maxHeartbeats 2000000 in
theorem symbolsOf_any (A : Option Addr) (n cap : Nat) (wide big : Bool) (s t : List UInt8) (w : World) (hn : n ≤ 65535)
    (hcl : Hid (∀ k, k < n → ∃ g, A = some ⟨g, 0, none⟩ ∧ g < w.heap.size ∧ ∀ i u, (mCells wide big s t k)[i]? = some u → w.cell? ⟨g, k * 5 + i, none⟩ = some u)) :
    Calls Tryd.prog 17 #[.slice A n cap] w fun e w' => (∃ v, e = .returned v ∧ Hid (w'.ownsRow w.heap.size 33 5 v n (mRow wide big s t n))) ∧ Below w.heap.size w w' := by
  obtain ⟨i0, hi, hz0, hz1, hz2⟩ := info_parts Tryd.infoISym
  go_enter Tryd.func17, Tryd.ntmps17
  go_wp2
  go_loopw [3, 8] (fun v i wr => ∃ (k : Nat), k ≤ n ∧ i = .int .i64 k ∧ Hid (wr.ownsRow w.heap.size 33 5 v k (mRow wide big s t k)) ∧ Hid (Below w.heap.size w wr)) (fun _ i _ => n - (intOf i).toNat)
  case atStart => exact ⟨0, Nat.zero_le _, rfl, Lib.hid (World.ownsRow_nil _ _ _ _), Lib.hid (Below.refl _ _)⟩
  case round =>
    obtain ⟨k, hk, rfl, hown, hbl⟩ := hrel
    have hz := hbl.out.size
    by_cases hkn : k < n
    · obtain ⟨g, rfl, hglt, hc⟩ := hcl.out k hkn
      have hrs := Lib.hid (mRow_succ wide big s t k)
      obtain ⟨nb, ty, se, de, va, hx⟩ := mCells_form wide big s t k
      rw [hx] at hc hrs
      clear hx
      have hc' := fun (i : Nat) (u : Value) (h : ([.string nb, .int .u8 ty, .int .u8 se, .int .u16 de, .int .u64 va] : List Value)[i]? = some u) => (hbl.out.cell (p := ⟨g, k * 5 + i, none⟩) hglt).trans (hc i u h)
      have d0 : wr.cell? ⟨g, k * 5, none⟩ = some (.string nb) := hc' 0 _ rfl
      have d1 : wr.cell? ⟨g, k * 5 + 1, none⟩ = some (.int .u8 ty) := hc' 1 _ rfl
      have d2 : wr.cell? ⟨g, k * 5 + 2, none⟩ = some (.int .u8 se) := hc' 2 _ rfl
      have d3 : wr.cell? ⟨g, k * 5 + 3, none⟩ = some (.int .u16 de) := hc' 3 _ rfl
      have d4 : wr.cell? ⟨g, k * 5 + 4, none⟩ = some (.int .u64 va) := hc' 4 _ rfl
      have hji0 : (0 : Int) ≤ (k : Int) := by omega
      have hji1 : (k : Int) < (n : Int) := by omega
      have hge : Hid (∀ q, u3.ownBlock = some q → w.heap.size ≤ q) := Lib.hid (fun q hq => (hown.out.lt q hq).1)
      clear hc hc'
      have own1 := Lib.hid (hown.out.alloc (.cells #[.string nb, .int .u8 ty, .int .u8 se, .int .u16 de, .int .u64 va] 94))
      have b1 := Lib.hid (hbl.out.alloc hz (.cells #[.string nb, .int .u8 ty, .int .u8 se, .int .u16 de, .int .u64 va] 94))
      have own2 := Lib.hid (own1.out.alloc (.cells #[.string nb, .int .u8 ty, .int .u8 se, .int .u16 de, .int .u64 va] 33))
      go_wp2_with (at_builtin; refine Stop.mk ?_)
      refine Stop.go ?_
      refine wpList_append_any rfl (.tmp 12) (.tmp 24) 24 rfl w.heap.size 33 i0 _ 5 32 Tryd.underlying24 hi hz0 hz1 hz2 rfl (by omega) _ k _ rfl own2.out (some ⟨wr.heap.size + 1, 0, none⟩) 1 1 [.string nb, .int .u8 ty, .int .u8 se, .int .u16 de, .int .u64 va] rfl (rc_newN (by simp) rfl) (List.all_eq_true.1 rfl) (by simp only [maxLen]; omega) (by omega) (by simp; omega) ?_
      intro v3 w3 own3 g3 at3
      have hb3 := Lib.hid ((b1.out.alloc (by simp; omega) (.cells #[.string nb, .int .u8 ty, .int .u8 se, .int .u16 de, .int .u64 va] 33)).grown g3 (by simp; omega) hge.out)
      rw [← hrs.out] at own3
      replace own3 := Lib.hid own3
      clear g3 at3 hown hbl own1 own2 b1 d0 d1 d2 d3 d4
      go_wp2
      go_roundw
      case rel => exact ⟨k + 1, by omega, by go_num, own3, hb3⟩
      case measure => simp [intOf]; omega
    · obtain rfl : k = n := by omega
      go_wp2
      go_ret
      exact ⟨⟨_, rfl, hown⟩, hbl.out⟩

/-- The magic number. -/
def magicOf (wide : Bool) : Int := if wide then 4277009103 else 4277009102
/-- What ZZParseSymtab and MachoSymbols give back. -/
def ZPost (wide big : Bool) (s t : List UInt8) (n : Nat) (w : World) (e : Ending) (w' : World) : Prop :=
  ((∀ k, k < n → mGood wide big s t k = true) ∧ ∃ v, e = .returned (.tuple #[v, .nilIface]) ∧ Hid (w'.ownsRow w.heap.size 94 5 v n (mRow wide big s t n))) ∨
  ((∃ k, k < n ∧ mGood wide big s t k = false) ∧ ∃ T x, e = .returned (.tuple #[.slice none 0 0, .iface T x]))
def MPost (wide big : Bool) (s t : List UInt8) (n : Nat) (w : World) (e : Ending) (w' : World) : Prop :=
  ((∀ k, k < n → mGood wide big s t k = true) ∧ ∃ v, e = .returned (.tuple #[v, .bool true]) ∧ Hid (w'.ownsRow w.heap.size 33 5 v n (mRow wide big s t n))) ∨
  ((∃ k, k < n ∧ mGood wide big s t k = false) ∧ e = .returned (.tuple #[.slice none 0 0, .bool false]))

set_option maxRecDepth 100000 in
set_option maxHeartbeats 2000000 in
theorem zzParse_any (wide big : Bool) (n : Nat) (A : Option Addr) (s : List UInt8) (ls cs : Nat) (B : Option Addr) (t : List UInt8) (lt ct : Nat) (w : World) (hn : n ≤ 65535)
    (hS : Hid (ls = s.length)) (hcs : ls ≤ cs) (hls : ls ≤ 2147483647) (hA : Hid (RB w A s)) (hAl : Hid (∀ a, A = some a → a.block < w.heap.size)) (hT : Hid (lt = t.length)) (hct : lt ≤ ct) (hlt : lt ≤ 2147483647) (hB : Hid (RB w B t)) (h3 : 3 ≤ w.heap.size) (TE TU : TypeId) (vE vU : Value) (hErr : Hid (ErrsAt w TE TU vE vU)) :
    Calls Tryd.prog 14 #[.int .u32 (magicOf wide), .int .u8 (ordn big), .int .u32 n, .slice A ls cs, .slice B lt ct] w fun e w' => ZPost wide big s t n w e w' ∧ Below w.heap.size w w' := by
  obtain ⟨w2, hw2⟩ : ∃ w2, w2 = (w.alloc (.cells #[.int .u32 (magicOf wide), .int .u32 0, .int .u32 0, .int .u32 0, .int .u32 0, .int .u32 0, .int .u32 0, .int .u8 (ordn big), .slice none 0 0, .slice none 0 0, .pointer none, .pointer none] 84)).alloc (.cells #[.int .u32 0, .int .u32 0, .int .u32 0, .int .u32 n, .int .u32 0, .int .u32 0] 90) := ⟨_, rfl⟩
  have b2 : Below w.heap.size w w2 := by rw [hw2]; exact ((Below.refl _ _).alloc (Nat.le_refl _) _).alloc (by simp) _
  have gF : w2.heap[w.heap.size]? = some (.cells #[.int .u32 (magicOf wide), .int .u32 0, .int .u32 0, .int .u32 0, .int .u32 0, .int .u32 0, .int .u32 0, .int .u8 (ordn big), .slice none 0 0, .slice none 0 0, .pointer none, .pointer none] 84 (0, 0)) := by rw [hw2]; exact (Below.heap_alloc _ _ w.heap.size (by simp)).trans (heap_alloc_new w _)
  have gH : w2.heap[w.heap.size + 1]? = some (.cells #[.int .u32 0, .int .u32 0, .int .u32 0, .int .u32 n, .int .u32 0, .int .u32 0] 90 (0, 0)) := by
    rw [hw2]
    have := heap_alloc_new (w.alloc (.cells #[.int .u32 (magicOf wide), .int .u32 0, .int .u32 0, .int .u32 0, .int .u32 0, .int .u32 0, .int .u32 0, .int .u8 (ordn big), .slice none 0 0, .slice none 0 0, .pointer none, .pointer none] 84)) (.cells #[.int .u32 0, .int .u32 0, .int .u32 0, .int .u32 n, .int .u32 0, .int .u32 0] 90)
    rwa [World.size_alloc] at this
  have hz2 := b2.size
  have E2 := Lib.hid (hErr.out.chg (Chg.of_below (S := fun k => w.heap.size ≤ k) b2 (fun k _ h => h)) (by omega) (by omega))
  have CALL : Hid (Calls Tryd.prog 26 #[.pointer (some ⟨w.heap.size, 0, none⟩), .slice A ls cs, .slice B lt ct, .slice none 0 0, .pointer (some ⟨w.heap.size + 1, 0, none⟩), .int .i64 0] w2 fun e w' => ParsePost wide big s t n (.slice none 0 0) w2 e w' ∧ Below w2.heap.size w2 w') := Lib.hid (by
    have c0 := World.cell?_of_row gF 0 _ rfl
    have c7 := World.cell?_of_row gF 7 _ rfl
    have c3 := World.cell?_of_row gH 3 _ rfl
    cases wide with
    | true => exact parse_wide w.heap.size 0 (w.heap.size + 1) 0 big (magicOf true) A s ls cs B t lt ct none 0 0 0 n w2 hn (Lib.hid rfl) c0 c7 c3 hS hcs hls (Lib.hid (hA.out.later b2)) (Lib.hid fun a ha => Nat.lt_of_lt_of_le (hAl.out a ha) hz2) hT hct hlt (Lib.hid (hB.out.later b2)) (by omega) TE TU vE vU E2
    | false => exact parse_narrow w.heap.size 0 (w.heap.size + 1) 0 big (magicOf false) A s ls cs B t lt ct none 0 0 0 n w2 hn (Lib.hid (by decide)) c0 c7 c3 hS hcs hls (Lib.hid (hA.out.later b2)) (Lib.hid fun a ha => Nat.lt_of_lt_of_le (hAl.out a ha) hz2) hT hct hlt (Lib.hid (hB.out.later b2)) (by omega) TE TU vE vU E2)
  replace b2 := Lib.hid b2
  clear gF gH E2
  generalize magicOf wide = mg at *
  go_enter Tryd.func14, Tryd.ntmps14
  go_wp2_with fail
  rw [← hw2]
  clear hw2
  refine CALL.out.mono ?_
  rintro e w3 ⟨hp, b3⟩
  have b4 := Lib.hid (b2.out.trans (b3.mono hz2))
  clear b3 CALL
  rcases hp with ⟨hall, S, v, rfl, hSt, -, hown⟩ | ⟨hbad, T, x, rfl⟩
  · obtain ⟨VA, vc, rfl, -, -, -⟩ := RT.of_owns hown.out
    have c7 := World.cell?_of_row hSt.out 7 _ rfl
    have hfin : Hid (ZPost wide big s t n w (.returned (.tuple #[.slice VA n vc, .nilIface])) w3) := Lib.hid (.inl ⟨hall, _, rfl, Lib.hid (owns_mono hown.out hz2)⟩)
    clear hall hown hSt
    go_wp2
    go_ret2
    exact ⟨hfin.out, b4.out⟩
  · have hfin : Hid (ZPost wide big s t n w (.returned (.tuple #[.slice none 0 0, .iface T x])) w3) := Lib.hid (.inr ⟨hbad, T, x, rfl⟩)
    clear hbad
    go_wp2
    go_ret2
    exact ⟨hfin.out, b4.out⟩

set_option maxRecDepth 100000 in
set_option maxHeartbeats 2000000 in
theorem implSyms_any (wide big : Bool) (n : Nat) (A : Option Addr) (s : List UInt8) (ls cs : Nat) (B : Option Addr) (t : List UInt8) (lt ct : Nat) (w : World) (hn : n ≤ 65535)
    (hS : Hid (ls = s.length)) (hls : ls ≤ 2147483647) (hA : RB w A s) (hT : Hid (lt = t.length)) (hlt : lt ≤ 2147483647) (hB : RB w B t) (h3 : 3 ≤ w.heap.size) (TE TU : TypeId) (vE vU : Value) (hErr : Hid (ErrsAt w TE TU vE vU)) :
    Calls Tryd.prog 7 #[.bool wide, .bool big, .int .u32 n, .slice A ls cs, .slice B lt ct] w fun e w' => MPost wide big s t n w e w' ∧ Below w.heap.size w w' := by
  cases wide with
  | true =>
    go_enter Tryd.func7, Tryd.ntmps7
    go_wp2_with fail
    refine (order_any big w).mono ?_
    rintro e w' ⟨rfl, rfl⟩
    go_wp2_with fail
    refine (copied_any A s ls cs hS.out hls w hA).mono ?_
    rintro e w1 ⟨⟨v, rfl, hown⟩, b1⟩
    obtain ⟨-, A1, c1, rfl, R1, hc1, -, -, -⟩ := RB.of_owns hown
    have hlt1 := fun (a : Addr) (ha : A1 = some a) => owned_lt hown (by rw [ha])
    have hz1 := b1.size
    have B1 := hB.later b1
    replace R1 := Lib.hid R1
    clear hown
    go_wp2_with fail
    refine (copied_any B t lt ct hT.out hlt w1 B1).mono ?_
    rintro e w2 ⟨⟨v, rfl, hown⟩, b2⟩
    obtain ⟨-, B2, c2, rfl, R2, hc2, -, -, -⟩ := RB.of_owns hown
    have b12 := Lib.hid (b1.trans (b2.mono hz1))
    have hz2 := b12.out.size
    have A2 := Lib.hid (R1.out.later b2)
    have hl2 : Hid (∀ a, A1 = some a → a.block < w2.heap.size) := Lib.hid (fun a ha => Nat.lt_of_lt_of_le (hlt1 a ha) b2.size)
    have E2 := Lib.hid (hErr.out.chg (Chg.of_below (S := fun k => w.heap.size ≤ k) b12.out (fun k _ h => h)) (by omega) (by omega))
    have ZP : Hid (Calls Tryd.prog 14 #[.int .u32 4277009103, .int .u8 (ordn big), .int .u32 n, .slice A1 ls c1, .slice B2 lt c2] w2 fun e w' => ZPost true big s t n w2 e w' ∧ Below w2.heap.size w2 w') := Lib.hid (zzParse_any true big n A1 s ls c1 B2 t lt c2 w2 hn hS hc1 hls A2 hl2 hT hc2 hlt (Lib.hid R2) (by omega) TE TU vE vU E2)
    clear hown b1 b2 B1 R1 hlt1
    go_wp2_with fail
    refine ZP.out.mono ?_
    rintro e w3 ⟨hp, b3⟩
    have b4 := Lib.hid (b12.out.trans (b3.mono hz2))
    have hz4 := b4.out.size
    clear b3 A2 E2 R2 ZP
    rcases hp with ⟨hall, v, rfl, hown⟩ | ⟨hbad, T, x, rfl⟩
    · obtain ⟨G, gc, rfl, hG⟩ := syms_at hown.out
      have CALL := Lib.hid (symbolsOf_any G n gc true big s t w3 hn (Lib.hid (fun k hk => by
        obtain ⟨g, e1, -, hlt, hcl⟩ := hG k hk
        exact ⟨g, e1, hlt, hcl⟩)))
      replace hall := Lib.hid hall
      clear hown hG
      go_wp2_with fail
      refine CALL.out.mono ?_
      rintro e w5 ⟨⟨v, rfl, hown5⟩, b5⟩
      have hfin : Hid (MPost true big s t n w (.returned (.tuple #[v, .bool true])) w5) := Lib.hid (.inl ⟨hall.out, v, rfl, Lib.hid (owns_mono hown5.out hz4)⟩)
      have b6 := Lib.hid (b4.out.trans (b5.mono hz4))
      clear hown5 b5 CALL
      go_wp2
      go_ret2
      exact ⟨hfin.out, b6.out⟩
    · have hfin : Hid (MPost true big s t n w (.returned (.tuple #[.slice none 0 0, .bool false])) w3) := Lib.hid (.inr ⟨hbad, rfl⟩)
      clear hbad
      go_wp2
      go_ret2
      exact ⟨hfin.out, b4.out⟩
  | false =>
    go_enter Tryd.func7, Tryd.ntmps7
    go_wp2_with fail
    refine (order_any big w).mono ?_
    rintro e w' ⟨rfl, rfl⟩
    go_wp2_with fail
    refine (copied_any A s ls cs hS.out hls w hA).mono ?_
    rintro e w1 ⟨⟨v, rfl, hown⟩, b1⟩
    obtain ⟨-, A1, c1, rfl, R1, hc1, -, -, -⟩ := RB.of_owns hown
    have hlt1 := fun (a : Addr) (ha : A1 = some a) => owned_lt hown (by rw [ha])
    have hz1 := b1.size
    have B1 := hB.later b1
    replace R1 := Lib.hid R1
    clear hown
    go_wp2_with fail
    refine (copied_any B t lt ct hT.out hlt w1 B1).mono ?_
    rintro e w2 ⟨⟨v, rfl, hown⟩, b2⟩
    obtain ⟨-, B2, c2, rfl, R2, hc2, -, -, -⟩ := RB.of_owns hown
    have b12 := Lib.hid (b1.trans (b2.mono hz1))
    have hz2 := b12.out.size
    have A2 := Lib.hid (R1.out.later b2)
    have hl2 : Hid (∀ a, A1 = some a → a.block < w2.heap.size) := Lib.hid (fun a ha => Nat.lt_of_lt_of_le (hlt1 a ha) b2.size)
    have E2 := Lib.hid (hErr.out.chg (Chg.of_below (S := fun k => w.heap.size ≤ k) b12.out (fun k _ h => h)) (by omega) (by omega))
    have ZP : Hid (Calls Tryd.prog 14 #[.int .u32 4277009102, .int .u8 (ordn big), .int .u32 n, .slice A1 ls c1, .slice B2 lt c2] w2 fun e w' => ZPost false big s t n w2 e w' ∧ Below w2.heap.size w2 w') := Lib.hid (zzParse_any false big n A1 s ls c1 B2 t lt c2 w2 hn hS hc1 hls A2 hl2 hT hc2 hlt (Lib.hid R2) (by omega) TE TU vE vU E2)
    clear hown b1 b2 B1 R1 hlt1
    go_wp2_with fail
    refine ZP.out.mono ?_
    rintro e w3 ⟨hp, b3⟩
    have b4 := Lib.hid (b12.out.trans (b3.mono hz2))
    have hz4 := b4.out.size
    clear b3 A2 E2 R2 ZP
    rcases hp with ⟨hall, v, rfl, hown⟩ | ⟨hbad, T, x, rfl⟩
    · obtain ⟨G, gc, rfl, hG⟩ := syms_at hown.out
      have CALL := Lib.hid (symbolsOf_any G n gc false big s t w3 hn (Lib.hid (fun k hk => by
        obtain ⟨g, e1, -, hlt, hcl⟩ := hG k hk
        exact ⟨g, e1, hlt, hcl⟩)))
      replace hall := Lib.hid hall
      clear hown hG
      go_wp2_with fail
      refine CALL.out.mono ?_
      rintro e w5 ⟨⟨v, rfl, hown5⟩, b5⟩
      have hfin : Hid (MPost false big s t n w (.returned (.tuple #[v, .bool true])) w5) := Lib.hid (.inl ⟨hall.out, v, rfl, Lib.hid (owns_mono hown5.out hz4)⟩)
      have b6 := Lib.hid (b4.out.trans (b5.mono hz4))
      clear hown5 b5 CALL
      go_wp2
      go_ret2
      exact ⟨hfin.out, b6.out⟩
    · have hfin : Hid (MPost false big s t n w (.returned (.tuple #[.slice none 0 0, .bool false])) w3) := Lib.hid (.inr ⟨hbad, rfl⟩)
      clear hbad
      go_wp2
      go_ret2
      exact ⟨hfin.out, b4.out⟩
end Go.Proofs.YtmgmmdhaklokjaaDoor
