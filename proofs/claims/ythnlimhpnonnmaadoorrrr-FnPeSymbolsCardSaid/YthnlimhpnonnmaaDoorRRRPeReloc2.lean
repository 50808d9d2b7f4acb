/-
  Relocations as plain data: the contracts of ZZReadRelocs, relocationsOf, PeRelocs.
-/
import Derived.Test.YthnlimhpnonnmaaDoorRRRPeReloc1
import Derived.Test.YthnlimhpnonnmaaDoorRRRGen
namespace Go.Proofs.YthnlimhpnonnmaaDoorRRR
set_option linter.unusedVariables false
set_option linter.unusedSimpArgs false
open Go Go.RowKit
attribute [local go_sem ↓] Go.wp_at_zero Go.wp_at_succ

/-- The numbers of relocation k. -/
def relocNums (s : List UInt8) (k : Nat) : List Nat := [num false ((s.drop (10 * k)).take 4), num false ((s.drop (10 * k + 4)).take 4), num false ((s.drop (10 * k + 8)).take 2)]
/-- A slice of numbers. -/
def IsNums (w : World) (c : List Value) (x : List Nat) : Prop := ∃ B d, c = [.slice B x.length d] ∧ RT w 64 B 1 x.length (x.map uv)
theorem IsNums.keeps {e : TypeId} {w w' : World} {c : List Value} {x : List Nat} (h : IsNums w c x) (hk : Keeps e w w') (he : 64 ≠ e) : IsNums w' c x := by
  obtain ⟨B, d, e1, hr⟩ := h
  exact ⟨B, d, e1, hr.keeps hk he⟩
theorem IsNums.later {w w' : World} {c : List Value} {x : List Nat} (h : IsNums w c x) (hb : Below w.heap.size w w') : IsNums w' c x := by
  obtain ⟨B, d, e1, hr⟩ := h
  exact ⟨B, d, e1, hr.later hb⟩

theorem owns_mono {w : World} {base base' : Nat} {e : TypeId} {size : Nat} {v : Value} {n : Nat} {xs : List Value} (h : w.ownsRow base e size v n xs) (hb : base' ≤ base) : w.ownsRow base' e size v n xs :=
  ⟨h.1, h.2.elim .inl (fun ⟨g, cap, cur, h1, h2, h3⟩ => .inr ⟨g, cap, cur, h1, Nat.le_trans hb h2, h3⟩)⟩
theorem fReloc_at (s : List UInt8) (k : Nat) : fReloc false ((s.drop (10 * k)).take 10) = [.int .u32 ((num false ((s.drop (10 * k)).take 4) : Nat) : Int), .int .u32 ((num false ((s.drop (10 * k + 4)).take 4) : Nat) : Int), .int .u16 ((num false ((s.drop (10 * k + 8)).take 2) : Nat) : Int)] := by
  simp [fReloc, List.drop_take, List.take_take, List.drop_drop]
theorem relocRow_at (s : List UInt8) : ∀ (n k : Nat) (_ : k < n) (j : Nat) (u : Value), (fReloc false ((s.drop (10 * k)).take 10))[j]? = some u → (relocRow s n)[k * 3 + j]? = some u
  | n + 1, k, hk, j, u, hu => by
    have hj : j < 3 := by
      have := (List.getElem?_eq_some_iff.1 hu).1
      rw [fReloc_at] at this
      simpa using this
    rw [relocRow]
    by_cases h : k < n
    · rw [List.getElem?_append_left (by rw [relocRow_len]; omega)]
      exact relocRow_at s n k h j u hu
    · obtain rfl : k = n := by omega
      rw [List.getElem?_append_right (by rw [relocRow_len]; omega), relocRow_len, Nat.add_sub_cancel_left]
      exact hu

theorem Tryd.infoNums : (Tryd.prog.info? 23).map (fun i => (i.zero, i.size, i.bytes)) = some (some (.slice none 0 0), 1, 24) := by kernel_rfl

set_option maxHeartbeats 400000 in
theorem relocationsOf_nil (w : World) : Calls Tryd.prog 37 #[.slice none 0 0] w fun e w' => e = .returned (.slice none 0 0) ∧ w = w' := by
  go_enter Tryd.func37, Tryd.ntmps37
  go_wp2
  refine wp_loop_rounds 1 ?_
  rw [rounds_succ]
  go_wp2
  go_ret
  exact ⟨rfl, rfl⟩

set_option maxRecDepth 100000 in
set_option maxHeartbeats 1000000 in
theorem relocationsOf_some (G n : Nat) (s : List UInt8) (w : World) (hn' : n ≤ 65535) (hG : Hid (w.heap[G]? = some (.cells (relocRow s n).toArray 106 (0, 0)))) :
    Calls Tryd.prog 37 #[.slice (some ⟨G, 0, none⟩) n n] w fun e w' => (∃ v vs, e = .returned v ∧ Hid (w'.ownsRow w.heap.size 23 1 v n vs) ∧ Hid (Recs IsNums w' 1 n vs ((List.range n).map (relocNums s)))) ∧ Below w.heap.size w w' := by
  obtain ⟨i0, hi, hz0, hz1, hz2⟩ := info_parts Tryd.infoNums
  have hGlt : G < w.heap.size := (Array.getElem?_eq_some_iff.1 hG.out).1
  go_enter Tryd.func37, Tryd.ntmps37
  go_wp2
  go_loopw [3, 8] (fun v i wr => ∃ (k : Nat) (vs : List Value), k ≤ n ∧ i = .int .i64 k ∧ Hid (wr.ownsRow w.heap.size 23 1 v k vs) ∧ Hid (Recs IsNums wr 1 k vs ((List.range k).map (relocNums s))) ∧ Hid (Below w.heap.size w wr)) (fun _ i _ => n - (intOf i).toNat)
  case atStart => exact ⟨0, [], Nat.zero_le _, rfl, Lib.hid (World.ownsRow_nil _ _ _ _), Lib.hid (Recs.nil _ _ _), Lib.hid (Below.refl _ _)⟩
  case round =>
    obtain ⟨k, vs, hk, rfl, hown, hrec, hbl⟩ := hrel
    have hz := hbl.out.size
    by_cases hkn : k < n
    · have Gk : wr.heap[G]? = some (.cells (relocRow s n).toArray 106 (0, 0)) := (hbl.out.block G hGlt).trans hG.out
      have c0 : wr.cell? ⟨G, k * 3, none⟩ = some (.int .u32 ((num false ((s.drop (10 * k)).take 4) : Nat) : Int)) := World.cell?_of_row Gk (k * 3) _ (relocRow_at s n k hkn 0 _ (by rw [fReloc_at]; rfl))
      have c1 : wr.cell? ⟨G, k * 3 + 1, none⟩ = some (.int .u32 ((num false ((s.drop (10 * k + 4)).take 4) : Nat) : Int)) := World.cell?_of_row Gk (k * 3 + 1) _ (relocRow_at s n k hkn 1 _ (by rw [fReloc_at]; rfl))
      have c2 : wr.cell? ⟨G, k * 3 + 2, none⟩ = some (.int .u16 ((num false ((s.drop (10 * k + 8)).take 2) : Nat) : Int)) := World.cell?_of_row Gk (k * 3 + 2) _ (relocRow_at s n k hkn 2 _ (by rw [fReloc_at]; rfl))
      have Wr0 := wrap_num false (s.drop (10 * k)) 4 (by omega)
      have Wr1 := wrap_num false (s.drop (10 * k + 4)) 4 (by omega)
      have Wr2 := wrap_num false (s.drop (10 * k + 8)) 2 (by omega)
      have hi0 : (0 : Int) ≤ (k : Int) := by omega
      have hi1 : (k : Int) < (n : Int) := by omega
      have hxk : relocNums s k = [num false ((s.drop (10 * k)).take 4), num false ((s.drop (10 * k + 4)).take 4), num false ((s.drop (10 * k + 8)).take 2)] := rfl
      replace hxk := Lib.hid hxk
      clear Gk
      generalize num false ((s.drop (10 * k)).take 4) = x0 at *
      generalize num false ((s.drop (10 * k + 4)).take 4) = x1 at *
      generalize num false ((s.drop (10 * k + 8)).take 2) = x2 at *
      go_wp2_with (at_builtin; refine Stop.mk ?_)
      refine Stop.go ?_
      have own3 := Lib.hid (((hown.out.alloc (.cells #[.int .u32 x0, .int .u32 x1, .int .u16 x2] 106)).alloc (.cells #[.int .u64 x0, .int .u64 x1, .int .u64 x2] 64)).alloc (.cells #[.slice (some ⟨wr.heap.size + 1, 0, none⟩) 3 3] 23))
      have bk := Lib.hid ((((Below.refl wr.heap.size wr).alloc (Nat.le_refl _) (.cells #[.int .u32 x0, .int .u32 x1, .int .u16 x2] 106)).alloc (by simp) (.cells #[.int .u64 x0, .int .u64 x1, .int .u64 x2] 64)).alloc (by simp; omega) (.cells #[.slice (some ⟨wr.heap.size + 1, 0, none⟩) 3 3] 23))
      have hcn : (((wr.alloc (.cells #[.int .u32 x0, .int .u32 x1, .int .u16 x2] 106)).alloc (.cells #[.int .u64 x0, .int .u64 x1, .int .u64 x2] 64)).alloc (.cells #[.slice (some ⟨wr.heap.size + 1, 0, none⟩) 3 3] 23)).cell? ⟨wr.heap.size + 2, 0, none⟩ = some (.slice (some ⟨wr.heap.size + 1, 0, none⟩) 3 3) := by
        have := World.cell?_of_row (heap_alloc_new ((wr.alloc (.cells #[.int .u32 x0, .int .u32 x1, .int .u16 x2] 106)).alloc (.cells #[.int .u64 x0, .int .u64 x1, .int .u64 x2] 64)) (.cells #[.slice (some ⟨wr.heap.size + 1, 0, none⟩) 3 3] 23)) 0 _ rfl
        simpa using this
      refine wpList_append_any rfl (.tmp 12) (.tmp 23) 44 rfl w.heap.size 23 i0 (.slice none 0 0) 1 24 Tryd.underlying44 hi hz0 hz1 hz2 rfl (by omega) _ k vs rfl own3.out (some ⟨wr.heap.size + 2, 0, none⟩) 1 1 [.slice (some ⟨wr.heap.size + 1, 0, none⟩) 3 3] rfl (RC.one hcn) (List.all_eq_true.1 rfl) (by simp only [maxLen]; omega) (by omega) (by simp; omega) ?_
      intro v1 w1 hown1 hg1 hat1
      have hk3 := Keeps.of_grown own3.out hg1
      have hnew : IsNums w1 [.slice (some ⟨wr.heap.size + 1, 0, none⟩) 3 3] (relocNums s k) := by
        rw [hxk.out]
        have h0 : IsNums (((wr.alloc (.cells #[.int .u32 x0, .int .u32 x1, .int .u16 x2] 106)).alloc (.cells #[.int .u64 x0, .int .u64 x1, .int .u64 x2] 64)).alloc (.cells #[.slice (some ⟨wr.heap.size + 1, 0, none⟩) 3 3] 23)) [.slice (some ⟨wr.heap.size + 1, 0, none⟩) 3 3] [x0, x1, x2] := by
          refine ⟨_, _, rfl, RT.later ?_ ((Below.refl _ _).alloc (Nat.le_refl _) _)⟩
          have := RT.new (w := wr.alloc (.cells #[.int .u32 x0, .int .u32 x1, .int .u16 x2] 106)) (vs := [uv x0, uv x1, uv x2]) (T := 64) (n := 3) rfl
          rw [World.size_alloc] at this
          exact this
        exact h0.keeps hk3 (by decide)
      have hrec1 := Lib.hid (((hrec.out.mono (fun c x h => (h.later bk.out).keeps hk3 (by decide))).push (c := [.slice (some ⟨wr.heap.size + 1, 0, none⟩) 3 3]) rfl hnew))
      have er : (List.range k).map (relocNums s) ++ [relocNums s k] = (List.range (k + 1)).map (relocNums s) := by rw [List.range_succ, List.map_append]; rfl
      rw [er] at hrec1
      have hb1 := Lib.hid ((hbl.out.trans (bk.out.mono hz)).grown hg1 (by simp; omega) (fun q hq => (hown.out.lt q hq).1))
      replace hown1 := Lib.hid hown1
      clear hg1 hat1 hown hbl hk3 hnew er hrec
      go_wp2
      go_roundw
      case rel => exact ⟨k + 1, _, by omega, by go_num, hown1, hrec1, hb1⟩
      case measure => simp [intOf]; omega
    · obtain rfl : k = n := by omega
      go_wp2
      go_ret
      exact ⟨⟨_, _, rfl, hown, hrec⟩, hbl.out⟩

set_option maxRecDepth 100000 in
set_option maxHeartbeats 1000000 in
theorem zzRelocs_zero (H : Nat) (A : Option Addr) (l : List UInt8) (len c : Nat) (w : World) (h3 : 3 ≤ w.heap.size)
    (hN : Hid (len = l.length)) (hb : len ≤ 2147483647) (hnc : len ≤ c) (hA : Hid (RB w A l)) (hAl : ∀ a, A = some a → a.block < w.heap.size) (h7 : w.cell? ⟨H, 7, none⟩ = some (.int .u16 0)) :
    Calls Tryd.prog 36 #[.pointer (some ⟨H, 0, none⟩), .slice A len c] w fun e w' => e = .returned (.tuple #[.slice none 0 0, .nilIface]) ∧ Below w.heap.size w w' := by
  have hHlt : H < w.heap.size := World.block_lt_of_cell? w _ h7
  have hR := Lib.hid (Rdr.made (w := w) hN.out hb hnc hA.out hAl h3)
  have hb0 : Below w.heap.size w (w.alloc (.cells #[.slice A len c, .int .i64 0, .int .i64 (-1)] 116)) := (Below.refl _ _).alloc (Nat.le_refl _) _
  have h71 := (hb0.cell (p := ⟨H, 7, none⟩) hHlt).trans h7
  replace hb0 := Lib.hid hb0
  go_enter Tryd.func36, Tryd.ntmps36
  go_wp2_with fail
  refine (newReader _ A len c rfl _).mono ?_
  rintro e w' ⟨rfl, rfl⟩
  go_wp2_with fail
  refine (readRelocs_zero H 0 _ _ (by exact h71)).mono ?_
  rintro e w2 ⟨rfl, rfl⟩
  go_wp2
  go_ret2
  exact ⟨rfl, hb0.out⟩

set_option maxRecDepth 100000 in
set_option maxHeartbeats 1000000 in
theorem zzRelocs_all (H : Nat) (place n : Nat) (A : Option Addr) (l : List UInt8) (len c : Nat) (w : World) (hn : 0 < n) (hn' : n ≤ 65535) (hpl : place ≤ 4294967295) (h3 : 3 ≤ w.heap.size)
    (hN : Hid (len = l.length)) (hb : len ≤ 2147483647) (hnc : len ≤ c) (hA : Hid (RB w A l)) (hAl : ∀ a, A = some a → a.block < w.heap.size) (h7 : w.cell? ⟨H, 7, none⟩ = some (.int .u16 n)) (h5 : w.cell? ⟨H, 5, none⟩ = some (.int .u32 place)) (hpos : Hid (place + 10 * n ≤ l.length)) :
    Calls Tryd.prog 36 #[.pointer (some ⟨H, 0, none⟩), .slice A len c] w fun e w' => (∃ G, e = .returned (.tuple #[.slice (some ⟨G, 0, none⟩) n n, .nilIface]) ∧ w.heap.size ≤ G ∧ Hid (w'.heap[G]? = some (.cells (relocRow ((l.drop place).take (10 * n)) n).toArray 106 (0, 0)))) ∧ Below w.heap.size w w' := by
  have hHlt : H < w.heap.size := World.block_lt_of_cell? w _ h7
  have hR := Lib.hid (Rdr.made (w := w) hN.out hb hnc hA.out hAl h3)
  have hb0 : Below w.heap.size w (w.alloc (.cells #[.slice A len c, .int .i64 0, .int .i64 (-1)] 116)) := (Below.refl _ _).alloc (Nat.le_refl _) _
  have h51 := (hb0.cell (p := ⟨H, 5, none⟩) hHlt).trans h5
  have h71 := (hb0.cell (p := ⟨H, 7, none⟩) hHlt).trans h7
  replace hb0 := Lib.hid hb0
  go_enter Tryd.func36, Tryd.ntmps36
  go_wp2_with fail
  refine (newReader _ A len c rfl _).mono ?_
  rintro e w' ⟨rfl, rfl⟩
  go_wp2_with fail
  refine (readRelocs_all H 0 place n _ w.heap.size _ l 0 _ hR hpl hpos hn hn' (by omega) (by exact h51) (by exact h71)).mono ?_
  rintro e w2 ⟨⟨G, rfl, hG, G2⟩, R2, C2⟩
  simp only [World.size_alloc] at hG
  have b2 := hb0.out.trans (C2.below (by simp) (fun k hk e => by omega))
  clear C2 R2
  go_wp2
  go_ret2
  exact ⟨⟨G, rfl, by omega, G2⟩, b2⟩

set_option maxRecDepth 100000 in
set_option maxHeartbeats 1000000 in
theorem zzRelocs_short (H : Nat) (place n : Nat) (A : Option Addr) (l : List UInt8) (len c : Nat) (w : World) (hn : 0 < n) (hn' : n ≤ 65535) (hpl : place ≤ 4294967295) (h3 : 3 ≤ w.heap.size)
    (hN : Hid (len = l.length)) (hb : len ≤ 2147483647) (hnc : len ≤ c) (hA : Hid (RB w A l)) (hAl : ∀ a, A = some a → a.block < w.heap.size) (h7 : w.cell? ⟨H, 7, none⟩ = some (.int .u16 n)) (h5 : w.cell? ⟨H, 5, none⟩ = some (.int .u32 place)) (hpos : Hid (l.length < place + 10 * n)) (TE TU : TypeId) (vE vU : Value) (hErr : Hid (ErrsAt w TE TU vE vU)) :
    Calls Tryd.prog 36 #[.pointer (some ⟨H, 0, none⟩), .slice A len c] w fun e w' => (∃ T v, e = .returned (.tuple #[.slice none 0 0, .iface T v])) ∧ Below w.heap.size w w' := by
  have hHlt : H < w.heap.size := World.block_lt_of_cell? w _ h7
  have hR := Lib.hid (Rdr.made (w := w) hN.out hb hnc hA.out hAl h3)
  have hb0 : Below w.heap.size w (w.alloc (.cells #[.slice A len c, .int .i64 0, .int .i64 (-1)] 116)) := (Below.refl _ _).alloc (Nat.le_refl _) _
  have h51 := (hb0.cell (p := ⟨H, 5, none⟩) hHlt).trans h5
  have h71 := (hb0.cell (p := ⟨H, 7, none⟩) hHlt).trans h7
  replace hb0 := Lib.hid hb0
  go_enter Tryd.func36, Tryd.ntmps36
  go_wp2_with fail
  refine (newReader _ A len c rfl _).mono ?_
  rintro e w' ⟨rfl, rfl⟩
  go_wp2_with fail
  have E1 := Lib.hid (hErr.out.chg (Chg.of_below (S := fun k => w.heap.size ≤ k) hb0.out (fun k _ h => h)) (by omega) (by omega))
  refine (readRelocs_short H 0 place n _ w.heap.size _ l 0 _ TE TU vE vU E1 hR hpl hpos hn hn' (by omega) (by exact h51) (by exact h71)).mono ?_
  rintro e w2 ⟨⟨T, v, rfl⟩, C2⟩
  have b2 := hb0.out.trans (C2.below (by simp) (fun k hk e => by omega))
  clear C2
  go_wp2
  go_ret2
  exact ⟨⟨T, v, rfl⟩, b2⟩

set_option maxRecDepth 100000 in
set_option maxHeartbeats 1000000 in
theorem implRelocs_zero (place : Nat) (A : Option Addr) (l : List UInt8) (len c : Nat) (w : World) (h3 : 3 ≤ w.heap.size) (hN : Hid (len = l.length)) (hb : len ≤ 2147483647) (hA : RB w A l) :
    Calls Tryd.prog 21 #[.int .u32 place, .int .u16 0, .slice A len c] w fun e w' => e = .returned (.tuple #[.slice none 0 0, .bool true]) ∧ Below w.heap.size w w' := by
  have g1 := Lib.hid (heap_alloc_new w (.cells #[.string ⟨#[]⟩, .int .u32 0, .int .u32 0, .int .u32 0, .int .u32 0, .int .u32 place, .int .u32 0, .int .u16 0, .int .u16 0, .int .u32 0] 86))
  have b1 : Below w.heap.size w (w.alloc (.cells #[.string ⟨#[]⟩, .int .u32 0, .int .u32 0, .int .u32 0, .int .u32 0, .int .u32 place, .int .u32 0, .int .u16 0, .int .u16 0, .int .u32 0] 86)) := (Below.refl _ _).alloc (Nat.le_refl _) _
  have A1 := Lib.hid (hA.later b1)
  replace b1 := Lib.hid b1
  go_enter Tryd.func21, Tryd.ntmps21
  go_wp2_with fail
  refine (copied_any A l len c hN.out hb _ A1.out).mono ?_
  rintro e w2 ⟨⟨v, rfl, hown⟩, hb2⟩
  clear A1
  obtain ⟨-, A1, k1, rfl, R1, hc1, hcm, hA1, hA2⟩ := RB.of_owns hown
  replace R1 := Lib.hid R1
  have hlt := fun (a : Addr) (ha : A1 = some a) => owned_lt hown (by rw [ha])
  have g2 := row_later hb2 g1
  have b2 := Lib.hid (b1.out.trans (hb2.mono b1.out.size))
  have hz2 := b2.out.size
  clear hown hA1 hA2 hcm hb2 g1 b1
  have h7 : w2.cell? ⟨w.heap.size, 7, none⟩ = some (.int .u16 0) := World.cell?_of_row g2.out 7 _ rfl
  go_wp2_with fail
  refine (zzRelocs_zero w.heap.size A1 l len k1 w2 (by omega) hN hb hc1 R1 hlt h7).mono ?_
  rintro e w3 ⟨rfl, b3⟩
  have b4 := Lib.hid (b2.out.trans (b3.mono b2.out.size))
  clear b3 h7
  go_wp2_with fail
  refine (relocationsOf_nil w3).mono ?_
  rintro e w' ⟨rfl, rfl⟩
  go_wp2
  go_ret2
  exact ⟨rfl, b4.out⟩

set_option maxRecDepth 100000 in
set_option maxHeartbeats 1000000 in
theorem implRelocs_all (place n : Nat) (A : Option Addr) (l : List UInt8) (len c : Nat) (w : World) (hn : 0 < n) (hn' : n ≤ 65535) (hpl : place ≤ 4294967295) (hpos : Hid (place + 10 * n ≤ l.length)) (h3 : 3 ≤ w.heap.size) (hN : Hid (len = l.length)) (hb : len ≤ 2147483647) (hA : RB w A l) :
    Calls Tryd.prog 21 #[.int .u32 place, .int .u16 n, .slice A len c] w fun e w' => (∃ v vs, e = .returned (.tuple #[v, .bool true]) ∧ Hid (w'.ownsRow w.heap.size 23 1 v n vs) ∧ Hid (Recs IsNums w' 1 n vs ((List.range n).map (relocNums ((l.drop place).take (10 * n)))))) ∧ Below w.heap.size w w' := by
  have g1 := Lib.hid (heap_alloc_new w (.cells #[.string ⟨#[]⟩, .int .u32 0, .int .u32 0, .int .u32 0, .int .u32 0, .int .u32 place, .int .u32 0, .int .u16 n, .int .u16 0, .int .u32 0] 86))
  have b1 : Below w.heap.size w (w.alloc (.cells #[.string ⟨#[]⟩, .int .u32 0, .int .u32 0, .int .u32 0, .int .u32 0, .int .u32 place, .int .u32 0, .int .u16 n, .int .u16 0, .int .u32 0] 86)) := (Below.refl _ _).alloc (Nat.le_refl _) _
  have A1 := Lib.hid (hA.later b1)
  replace b1 := Lib.hid b1
  go_enter Tryd.func21, Tryd.ntmps21
  go_wp2_with fail
  refine (copied_any A l len c hN.out hb _ A1.out).mono ?_
  rintro e w2 ⟨⟨v, rfl, hown⟩, hb2⟩
  clear A1
  obtain ⟨-, A1, k1, rfl, R1, hc1, hcm, hA1, hA2⟩ := RB.of_owns hown
  replace R1 := Lib.hid R1
  have hlt := fun (a : Addr) (ha : A1 = some a) => owned_lt hown (by rw [ha])
  have g2 := row_later hb2 g1
  have b2 := Lib.hid (b1.out.trans (hb2.mono b1.out.size))
  have hz2 := b2.out.size
  clear hown hA1 hA2 hcm hb2 g1 b1
  have h7 : w2.cell? ⟨w.heap.size, 7, none⟩ = some (.int .u16 n) := World.cell?_of_row g2.out 7 _ rfl
  have h5 : w2.cell? ⟨w.heap.size, 5, none⟩ = some (.int .u32 place) := World.cell?_of_row g2.out 5 _ rfl
  go_wp2_with fail
  refine (zzRelocs_all w.heap.size place n A1 l len k1 w2 hn hn' hpl (by omega) hN hb hc1 R1 hlt h7 h5 hpos).mono ?_
  rintro e w3 ⟨⟨G, rfl, hG, G3⟩, b3⟩
  have b4 := Lib.hid (b2.out.trans (b3.mono b2.out.size))
  clear b3 h7 h5
  go_wp2_with fail
  refine (relocationsOf_some G n _ w3 hn' G3).mono ?_
  rintro e w4 ⟨⟨v, vs, rfl, hown, hrec⟩, b5⟩
  have b6 := b4.out.trans (b5.mono b4.out.size)
  have hown2 := Lib.hid (owns_mono hown.out b4.out.size)
  clear hown b5
  go_wp2
  go_ret2
  exact ⟨⟨_, _, rfl, hown2, hrec⟩, b6⟩

set_option maxRecDepth 100000 in
set_option maxHeartbeats 1000000 in
theorem implRelocs_short (place n : Nat) (A : Option Addr) (l : List UInt8) (len c : Nat) (w : World) (hn : 0 < n) (hn' : n ≤ 65535) (hpl : place ≤ 4294967295) (hpos : Hid (l.length < place + 10 * n)) (TE TU : TypeId) (vE vU : Value) (hErr : Hid (ErrsAt w TE TU vE vU)) (h3 : 3 ≤ w.heap.size) (hN : Hid (len = l.length)) (hb : len ≤ 2147483647) (hA : RB w A l) :
    Calls Tryd.prog 21 #[.int .u32 place, .int .u16 n, .slice A len c] w fun e w' => e = .returned (.tuple #[.slice none 0 0, .bool false]) ∧ Below w.heap.size w w' := by
  have g1 := Lib.hid (heap_alloc_new w (.cells #[.string ⟨#[]⟩, .int .u32 0, .int .u32 0, .int .u32 0, .int .u32 0, .int .u32 place, .int .u32 0, .int .u16 n, .int .u16 0, .int .u32 0] 86))
  have b1 : Below w.heap.size w (w.alloc (.cells #[.string ⟨#[]⟩, .int .u32 0, .int .u32 0, .int .u32 0, .int .u32 0, .int .u32 place, .int .u32 0, .int .u16 n, .int .u16 0, .int .u32 0] 86)) := (Below.refl _ _).alloc (Nat.le_refl _) _
  have A1 := Lib.hid (hA.later b1)
  replace b1 := Lib.hid b1
  go_enter Tryd.func21, Tryd.ntmps21
  go_wp2_with fail
  refine (copied_any A l len c hN.out hb _ A1.out).mono ?_
  rintro e w2 ⟨⟨v, rfl, hown⟩, hb2⟩
  clear A1
  obtain ⟨-, A1, k1, rfl, R1, hc1, hcm, hA1, hA2⟩ := RB.of_owns hown
  replace R1 := Lib.hid R1
  have hlt := fun (a : Addr) (ha : A1 = some a) => owned_lt hown (by rw [ha])
  have g2 := row_later hb2 g1
  have b2 := Lib.hid (b1.out.trans (hb2.mono b1.out.size))
  have hz2 := b2.out.size
  clear hown hA1 hA2 hcm hb2 g1 b1
  have h7 : w2.cell? ⟨w.heap.size, 7, none⟩ = some (.int .u16 n) := World.cell?_of_row g2.out 7 _ rfl
  have h5 : w2.cell? ⟨w.heap.size, 5, none⟩ = some (.int .u32 place) := World.cell?_of_row g2.out 5 _ rfl
  have E2 := Lib.hid (hErr.out.chg (Chg.of_below (S := fun k => w.heap.size ≤ k) b2.out (fun k _ h => h)) (by omega) (by omega))
  go_wp2_with fail
  refine (zzRelocs_short w.heap.size place n A1 l len k1 w2 hn hn' hpl (by omega) hN hb hc1 R1 hlt h7 h5 hpos TE TU vE vU E2).mono ?_
  rintro e w3 ⟨⟨T, v, rfl⟩, b3⟩
  have b4 := Lib.hid (b2.out.trans (b3.mono b2.out.size))
  clear b3 h7 h5
  go_wp2
  go_ret2
  exact ⟨rfl, b4.out⟩
end Go.Proofs.YthnlimhpnonnmaaDoorRRR
