/-
  Symbols without the auxiliary ones: the contract of removeAuxSymbols.
-/
import Derived.Test.YtoobkbnhfkfoaaaPePlain1
import Derived.Test.YtoobkbnhfkfoaaaPeName
namespace Go.Proofs.Ytoobkbnhfkfoaaa
set_option linter.unusedVariables false
set_option linter.unusedSimpArgs false
open Go Go.RowKit
attribute [local go_sem ↓] Go.wp_at_zero Go.wp_at_succ

/-- The places of the records that are no auxiliary ones, among the first j; how many auxiliary ones are still to come. -/
def rem (a : Nat → Nat) : Nat → List Nat × Nat
  | 0 => ([], 0)
  | j + 1 => if (rem a j).2 = 0 then ((rem a j).1 ++ [j], a j) else ((rem a j).1, (rem a j).2 - 1)
theorem rem_zero {a : Nat → Nat} {j : Nat} {acc : List Nat} (h : rem a j = (acc, 0)) : rem a (j + 1) = (acc ++ [j], a j) := by simp [rem, h]
theorem rem_pos {a : Nat → Nat} {j x : Nat} {acc : List Nat} (h : rem a j = (acc, x)) (hx : 0 < x) : rem a (j + 1) = (acc, x - 1) := by
  have h2 : ¬ x = 0 := by omega
  simp [rem, h, h2]
theorem rem_run (a : Nat → Nat) (k x : Nat) (acc : List Nat) (h : rem a k = (acc, x)) : ∀ i, i ≤ x → rem a (k + i) = (acc, x - i)
  | 0, _ => by simpa using h
  | i + 1, hi => by
    have := rem_pos (rem_run a k x acc h i (by omega)) (by omega)
    rw [← Nat.add_assoc, this]
    congr 1
theorem rem_lt (a : Nat → Nat) : ∀ j, ∀ k ∈ (rem a j).1, k < j
  | 0, k, h => by cases h
  | j + 1, k, h => by
    unfold rem at h
    split at h
    · rcases List.mem_append.1 h with h | h
      · have := rem_lt a j k h; omega
      · have : k = j := by simpa using h
        omega
    · have := rem_lt a j k h; omega
theorem rem_mono (a : Nat → Nat) (j k : Nat) (h : k ∈ (rem a j).1) : ∀ i, k ∈ (rem a (j + i)).1
  | 0 => h
  | i + 1 => by
    have := rem_mono a j k h i
    rw [← Nat.add_assoc]
    unfold rem
    split
    · exact List.mem_append.2 (.inl this)
    · exact this

theorem rem_len (a : Nat → Nat) : ∀ j, (rem a j).1.length ≤ j
  | 0 => Nat.le_refl _
  | j + 1 => by
    have := rem_len a j
    by_cases h : (rem a j).2 = 0
    · rw [rem_zero (acc := (rem a j).1) (by rw [← h])]
      simpa using this
    · rw [rem_pos (acc := (rem a j).1) (x := (rem a j).2) rfl (by omega)]
      exact Nat.le_succ_of_le this

/-- The records, how many auxiliary ones each tells; a symbol's cells. -/
def csAt (l : List UInt8) (k : Nat) : CoffL := coffL (l.drop (18 * k))
def auxAt (l : List UInt8) (k : Nat) : Nat := num false (((l.drop (18 * k)).drop 17).take 1)
theorem auxAt_lt (l : List UInt8) (k : Nat) : auxAt l k < 256 := by
  have h := num_lt false (((l.drop (18 * k)).drop 17).take 1)
  have h2 : 256 ^ (((l.drop (18 * k)).drop 17).take 1).length ≤ 256 ^ 1 := Nat.pow_le_pow_right (by omega) (by simp; omega)
  unfold auxAt
  omega
theorem coffsL_at (l : List UInt8) (n k : Nat) (h : k < n) : (coffsL l n)[k]? = some (csAt l k) := by simp [coffsL, h, csAt]
def plainCells (t : List UInt8) (c : CoffL) : List Value := [.string ⟨(symRes c.name t).1.toArray⟩, .int .u32 c.value, .int .i16 c.sect, .int .u16 c.typ, .int .u8 c.cls]
/-- A pointer to a symbol. -/
def IsPtr (t : List UInt8) (w : World) (vs : List Value) (c : CoffL) : Prop := ∃ g, vs = [.pointer (some ⟨g, 0, none⟩)] ∧ w.heap[g]? = some (.cells (plainCells t c).toArray 70 (0, 0))
theorem IsPtr.later {t : List UInt8} {w w' : World} {vs : List Value} {c : CoffL} (h : IsPtr t w vs c) (hb : Below w.heap.size w w') : IsPtr t w' vs c := by
  obtain ⟨g, e, hg⟩ := h
  exact ⟨g, e, (hb.block g (Array.getElem?_eq_some_iff.1 hg).1).trans hg⟩
theorem IsPtr.keeps {t : List UInt8} {e : TypeId} {w w' : World} {vs : List Value} {c : CoffL} (h : IsPtr t w vs c) (hk : Keeps e w w') (he : 70 ≠ e) : IsPtr t w' vs c := by
  obtain ⟨g, e1, hg⟩ := h
  exact ⟨g, e1, hk.block g _ _ _ hg he⟩

theorem fullName_yes (V : Nat) (y0 y1 y2 y3 y4 y5 y6 y7 : UInt8) (x1 x2 x3 x4 x5 : Int) (TV : TypeId) (A : Option Addr) (t : List UInt8) (n c : Nat) (w : World) (hN : Hid (n = t.length)) (hc : n ≤ c) (hb : n ≤ 2147483647) (hT : RB w A t)
    (hV : Hid (w.heap[V]? = some (.cells #[.int .u8 (y0.toNat : Int), .int .u8 (y1.toNat : Int), .int .u8 (y2.toNat : Int), .int .u8 (y3.toNat : Int), .int .u8 (y4.toNat : Int), .int .u8 (y5.toNat : Int), .int .u8 (y6.toNat : Int), .int .u8 (y7.toNat : Int), .int .u32 x1, .int .i16 x2, .int .u16 x3, .int .u8 x4, .int .u8 x5] TV (0, 0)))) (hok : (symRes [y0, y1, y2, y3, y4, y5, y6, y7] t).2 = true) :
    Calls Try.prog 20 #[.pointer (some ⟨V, 0, none⟩), .slice A n c] w fun e w' => e = .returned (.tuple #[.string ⟨(symRes [y0, y1, y2, y3, y4, y5, y6, y7] t).1.toArray⟩, .nilIface]) ∧ Below w.heap.size w w' := by
  have hn := hN.out
  unfold symRes at hok ⊢
  cases ho : isOff [y0, y1, y2, y3, y4, y5, y6, y7] with
  | false => exact fullName_text V y0 y1 y2 y3 y4 y5 y6 y7 x1 x2 x3 x4 x5 TV A t n c w hN hc hb hT hV ho
  | true =>
    rw [ho] at hok
    simp only [if_true] at hok
    have h := fullName_ok V y0 y1 y2 y3 y4 y5 y6 y7 x1 x2 x3 x4 x5 TV A t n c w hN hc hb hT hV ho (by rw [hn]; exact hok)
    refine h.mono ?_
    rintro e w' ⟨rfl, hbl⟩
    exact ⟨by simp [strAt, hok], hbl⟩
theorem fullName_no (V : Nat) (y0 y1 y2 y3 y4 y5 y6 y7 : UInt8) (x1 x2 x3 x4 x5 : Int) (TV : TypeId) (A : Option Addr) (t : List UInt8) (n c : Nat) (w : World) (hN : Hid (n = t.length)) (hc : n ≤ c) (hb : n ≤ 2147483647) (hT : RB w A t)
    (hV : Hid (w.heap[V]? = some (.cells #[.int .u8 (y0.toNat : Int), .int .u8 (y1.toNat : Int), .int .u8 (y2.toNat : Int), .int .u8 (y3.toNat : Int), .int .u8 (y4.toNat : Int), .int .u8 (y5.toNat : Int), .int .u8 (y6.toNat : Int), .int .u8 (y7.toNat : Int), .int .u32 x1, .int .i16 x2, .int .u16 x3, .int .u8 x4, .int .u8 x5] TV (0, 0)))) (hok : (symRes [y0, y1, y2, y3, y4, y5, y6, y7] t).2 = false) :
    Calls Try.prog 20 #[.pointer (some ⟨V, 0, none⟩), .slice A n c] w fun e w' => (∃ T v, e = .returned (.tuple #[.string ⟨#[]⟩, .iface T v])) ∧ Below w.heap.size w w' := by
  have hn := hN.out
  unfold symRes at hok
  cases ho : isOff [y0, y1, y2, y3, y4, y5, y6, y7] with
  | false => rw [ho] at hok; simp at hok
  | true =>
    rw [ho] at hok
    simp only [if_true] at hok
    exact fullName_bad V y0 y1 y2 y3 y4 y5 y6 y7 x1 x2 x3 x4 x5 TV A t n c w hN hc hb hT hV ho (by rw [hn]; exact hok)

/-- What removeAuxSymbols gives back: the symbols where each name is there, else an error. -/
def RemPost (l t : List UInt8) (n : Nat) (w : World) (e : Ending) (w' : World) : Prop :=
  ((∀ k ∈ (rem (auxAt l) n).1, (symRes (csAt l k).name t).2 = true) ∧ ∃ v vs, e = .returned (.tuple #[v, .nilIface]) ∧ Hid (w'.ownsRow w.heap.size 68 1 v (rem (auxAt l) n).1.length vs) ∧ Hid (Recs (IsPtr t) w' 1 (rem (auxAt l) n).1.length vs ((rem (auxAt l) n).1.map (csAt l)))) ∨
  ((∃ k ∈ (rem (auxAt l) n).1, (symRes (csAt l k).name t).2 = false) ∧ ∃ T v, e = .returned (.tuple #[.slice none 0 0, .iface T v]))

theorem Try.infoPtr : (Try.prog.info? 68).map (fun i => (i.zero, i.size, i.bytes)) = some (some (.pointer none), 1, 8) := by kernel_rfl

set_option maxHeartbeats 1000000 in
theorem remAux_nil (A S : Option Addr) (c n k : Nat) (w : World) : Calls Try.prog 19 #[.slice A 0 c, .slice S n k] w fun e w' => e = .returned (.tuple #[.slice none 0 0, .nilIface]) ∧ w = w' := by
  go_enter Try.func19, Try.ntmps19
  go_wp2
  go_ret2
  exact ⟨rfl, rfl⟩

set_option maxRecDepth 100000 in
set_option maxHeartbeats 2000000 in
theorem remAux_any (g n cap : Nat) (l : List UInt8) (A : Option Addr) (t : List UInt8) (tn tc : Nat) (w : World) (hn0 : 0 < n) (hn : n ≤ 300) (hl : Hid (18 * n ≤ l.length)) (hT : RB w A t) (htn : Hid (tn = t.length)) (htc : tn ≤ tc) (htb : tn ≤ 2147483647)
    (hglt : g < w.heap.size) (hcl : Hid (∀ (k : Nat), k < n → ∀ (j : Nat) (u : Value), (symCells (csAt l k))[j]? = some u → w.cell? ⟨g, k * 13 + j, none⟩ = some u)) :
    Calls Try.prog 19 #[.slice (some ⟨g, 0, none⟩) n cap, .slice A tn tc] w fun e w' => RemPost l t n w e w' ∧ Below w.heap.size w w' := by
  obtain ⟨i0, hi, hz0, hz1, hz2⟩ := info_parts Try.infoPtr
  have hmk : ∀ w, (Instr.makeSlice 52 (.int .i64 0) (.int .i64 0)).run Try.prog w = .ok (.slice (some ⟨w.heap.size, 0, none⟩) 0 0) (w.alloc (.cells #[] 68)) := fun _ => by kernel_rfl
  have hn1 : ((n : Int) == 0) = false := by rw [beq_eq_false_iff_ne]; omega
  go_enter Try.func19, Try.ntmps19
  go_wp2
  go_loopw [6, 7, 19] (fun v x i wr => ∃ (j y : Nat) (acc : List Nat) (vs : List Value), j ≤ n ∧ i = .int .i64 j ∧ x = .int .u8 y ∧ y < 256 ∧ Hid (rem (auxAt l) j = (acc, y)) ∧ Hid (∀ k ∈ acc, (symRes (csAt l k).name t).2 = true) ∧
    Hid (wr.ownsRow w.heap.size 68 1 v acc.length vs) ∧ Hid (Recs (IsPtr t) wr 1 acc.length vs (acc.map (csAt l))) ∧ Hid (acc.length ≤ j) ∧ Hid (Below w.heap.size w wr)) (fun _ _ i _ => n - (intOf i).toNat)
  case atStart => exact ⟨0, 0, [], [], Nat.zero_le _, rfl, rfl, by omega, Lib.hid rfl, Lib.hid (fun k hk => by cases hk), Lib.hid (World.ownsRow_made w #[] 0 (Nat.le_refl _) (by simp [maxLen]) (by simp)), Lib.hid (Recs.nil _ _ _), Lib.hid (Nat.le_refl _), Lib.hid ((Below.refl _ _).alloc (Nat.le_refl _) _)⟩
  case round =>
    obtain ⟨j, y, acc, vs, hj, rfl, rfl, hy, hrem, hok, hown, hrec, hacc, hbl⟩ := hrel
    have hz := hbl.out.size
    by_cases hjn : j < n
    · have hnm : (csAt l j).name.length = 8 := coffL_eight (by have := hl.out; simp; omega)
      obtain ⟨x, hx⟩ : ∃ x, csAt l j = x := ⟨_, rfl⟩
      have hau : (csAt l j).aux = (auxAt l j : Int) := rfl
      have hcx := hcl.out j hjn
      rw [hx] at hnm hau hcx
      obtain ⟨nm, x1, x2, x3, x4, x5⟩ := x
      obtain ⟨y0, y1, y2, y3, y4, y5, y6, y7, rfl⟩ := name8 hnm
      have hau' : x5 = (auxAt l j : Int) := hau
      subst hau'
      replace hx := Lib.hid hx
      have hc := fun (i : Nat) (u : Value) (h : (symCells ⟨[y0, y1, y2, y3, y4, y5, y6, y7], x1, x2, x3, x4, (auxAt l j : Int)⟩)[i]? = some u) => (hbl.out.cell (p := ⟨g, j * 13 + i, none⟩) hglt).trans (hcx i u h)
      have d0 : wr.cell? ⟨g, j * 13, none⟩ = some (.int .u8 (y0.toNat : Int)) := hc 0 _ rfl
      have d1 : wr.cell? ⟨g, j * 13 + 1, none⟩ = some (.int .u8 (y1.toNat : Int)) := hc 1 _ rfl
      have d2 : wr.cell? ⟨g, j * 13 + 2, none⟩ = some (.int .u8 (y2.toNat : Int)) := hc 2 _ rfl
      have d3 : wr.cell? ⟨g, j * 13 + 3, none⟩ = some (.int .u8 (y3.toNat : Int)) := hc 3 _ rfl
      have d4 : wr.cell? ⟨g, j * 13 + 4, none⟩ = some (.int .u8 (y4.toNat : Int)) := hc 4 _ rfl
      have d5 : wr.cell? ⟨g, j * 13 + 5, none⟩ = some (.int .u8 (y5.toNat : Int)) := hc 5 _ rfl
      have d6 : wr.cell? ⟨g, j * 13 + 6, none⟩ = some (.int .u8 (y6.toNat : Int)) := hc 6 _ rfl
      have d7 : wr.cell? ⟨g, j * 13 + 7, none⟩ = some (.int .u8 (y7.toNat : Int)) := hc 7 _ rfl
      have d8 : wr.cell? ⟨g, j * 13 + 8, none⟩ = some (.int .u32 x1) := hc 8 _ rfl
      have d9 : wr.cell? ⟨g, j * 13 + 9, none⟩ = some (.int .i16 x2) := hc 9 _ rfl
      have d10 : wr.cell? ⟨g, j * 13 + 10, none⟩ = some (.int .u16 x3) := hc 10 _ rfl
      have d11 : wr.cell? ⟨g, j * 13 + 11, none⟩ = some (.int .u8 x4) := hc 11 _ rfl
      have d12 : wr.cell? ⟨g, j * 13 + 12, none⟩ = some (.int .u8 (auxAt l j : Int)) := hc 12 _ rfl
      have hal := auxAt_lt l j
      have own1 := Lib.hid (hown.out.alloc (.cells #[.int .u8 (y0.toNat : Int), .int .u8 (y1.toNat : Int), .int .u8 (y2.toNat : Int), .int .u8 (y3.toNat : Int), .int .u8 (y4.toNat : Int), .int .u8 (y5.toNat : Int), .int .u8 (y6.toNat : Int), .int .u8 (y7.toNat : Int), .int .u32 x1, .int .i16 x2, .int .u16 x3, .int .u8 x4, .int .u8 (auxAt l j : Int)] 49))
      have bk := Lib.hid ((Below.refl wr.heap.size wr).alloc (Nat.le_refl _) (.cells #[.int .u8 (y0.toNat : Int), .int .u8 (y1.toNat : Int), .int .u8 (y2.toNat : Int), .int .u8 (y3.toNat : Int), .int .u8 (y4.toNat : Int), .int .u8 (y5.toNat : Int), .int .u8 (y6.toNat : Int), .int .u8 (y7.toNat : Int), .int .u32 x1, .int .i16 x2, .int .u16 x3, .int .u8 x4, .int .u8 (auxAt l j : Int)] 49))
      have gk := Lib.hid (heap_alloc_new wr (.cells #[.int .u8 (y0.toNat : Int), .int .u8 (y1.toNat : Int), .int .u8 (y2.toNat : Int), .int .u8 (y3.toNat : Int), .int .u8 (y4.toNat : Int), .int .u8 (y5.toNat : Int), .int .u8 (y6.toNat : Int), .int .u8 (y7.toNat : Int), .int .u32 x1, .int .i16 x2, .int .u16 x3, .int .u8 x4, .int .u8 (auxAt l j : Int)] 49))
      have hji0 : (0 : Int) ≤ (j : Int) := by omega
      have hji1 : (j : Int) < (n : Int) := by omega
      have htr := Lib.hid (((hT.later hbl.out).later bk.out))
      clear hc hcx hnm hau
      by_cases hy0 : y = 0
      · subst hy0
        have hmem : j ∈ (rem (auxAt l) (j + 1)).1 := by rw [rem_zero hrem.out]; simp
        have hmem2 : j ∈ (rem (auxAt l) n).1 := by
          have := rem_mono _ _ _ hmem (n - (j + 1))
          rwa [show j + 1 + (n - (j + 1)) = n by omega] at this
        replace hmem2 := Lib.hid hmem2
        have hrem1 := Lib.hid (rem_zero hrem.out)
        have hnx : (csAt l j).name = [y0, y1, y2, y3, y4, y5, y6, y7] := by rw [hx.out]
        clear hmem
        by_cases hgood : (symRes [y0, y1, y2, y3, y4, y5, y6, y7] t).2 = true
        · have CALL := Lib.hid (fullName_yes wr.heap.size y0 y1 y2 y3 y4 y5 y6 y7 x1 x2 x3 x4 (auxAt l j : Int) 49 A t tn tc _ htn htc htb htr.out gk hgood)
          rw [← hnx] at hgood
          have hpc : plainCells t (csAt l j) = [.string ⟨(symRes [y0, y1, y2, y3, y4, y5, y6, y7] t).1.toArray⟩, .int .u32 x1, .int .i16 x2, .int .u16 x3, .int .u8 x4] := by unfold plainCells; rw [hx.out]
          replace hgood := Lib.hid hgood
          replace hpc := Lib.hid hpc
          replace hnx := Lib.hid hnx
          generalize (symRes [y0, y1, y2, y3, y4, y5, y6, y7] t).1 = nmx at *
          generalize auxAt l j = au at *
          go_wp2_with fail
          refine CALL.out.mono ?_
          rintro e w2 ⟨rfl, b2⟩
          have g2 := row_later b2 gk
          have r1 := World.cell?_of_row g2.out 8 (.int .u32 x1) rfl
          have r2 := World.cell?_of_row g2.out 9 (.int .i16 x2) rfl
          have r3 := World.cell?_of_row g2.out 10 (.int .u16 x3) rfl
          have r4 := World.cell?_of_row g2.out 11 (.int .u8 x4) rfl
          have r5 := World.cell?_of_row g2.out 12 (.int .u8 (au : Int)) rfl
          have own2 := Lib.hid (owns_later own1.out b2)
          have b3 := Lib.hid (bk.out.trans (b2.mono bk.out.size))
          clear gk own1 g2 htr
          have own3 := Lib.hid ((own2.out.alloc (.cells #[.string ⟨nmx.toArray⟩, .int .u32 x1, .int .i16 x2, .int .u16 x3, .int .u8 x4] 70)).alloc (.cells #[.pointer (some ⟨w2.heap.size, 0, none⟩)] 68))
          have bx := Lib.hid (((Below.refl w2.heap.size w2).alloc (Nat.le_refl _) (.cells #[.string ⟨nmx.toArray⟩, .int .u32 x1, .int .i16 x2, .int .u16 x3, .int .u8 x4] 70)).alloc (by simp) (.cells #[.pointer (some ⟨w2.heap.size, 0, none⟩)] 68))
          have gx := Lib.hid (heap_alloc2_old w2 (.cells #[.string ⟨nmx.toArray⟩, .int .u32 x1, .int .i16 x2, .int .u16 x3, .int .u8 x4] 70) (.cells #[.pointer (some ⟨w2.heap.size, 0, none⟩)] 68))
          have gy := heap_alloc2_new w2 (.cells #[.string ⟨nmx.toArray⟩, .int .u32 x1, .int .i16 x2, .int .u16 x3, .int .u8 x4] 70) (.cells #[.pointer (some ⟨w2.heap.size, 0, none⟩)] 68)
          have hcn := World.cell?_of_row gy 0 _ rfl
          have hszx : w2.heap.size + 2 = ((w2.alloc (.cells #[.string ⟨nmx.toArray⟩, .int .u32 x1, .int .i16 x2, .int .u16 x3, .int .u8 x4] 70)).alloc (.cells #[.pointer (some ⟨w2.heap.size, 0, none⟩)] 68)).heap.size := by simp
          have hzw := b3.out.size
          have hacc' := hacc.out
          replace hszx := Lib.hid hszx
          replace hcn := Lib.hid hcn
          clear gy b2 CALL
          go_wp2_with (at_builtin; refine Stop.mk ?_)
          refine Stop.go ?_
          refine wpList_append_any rfl (.tmp 48) (.tmp 50) 52 rfl w.heap.size 68 i0 (.pointer none) 1 8 Try.underlying52 hi hz0 hz1 hz2 rfl (by omega) _ acc.length vs rfl own3.out (some ⟨w2.heap.size + 1, 0, none⟩) 1 1 [.pointer (some ⟨w2.heap.size, 0, none⟩)] rfl (RC.one hcn.out) (List.all_eq_true.1 rfl) (by simp only [maxLen]; omega) (by omega) (by have := hszx.out; omega) ?_
          intro v4 w4 own4 g4 at4
          have hk4 := Keeps.of_grown own3.out g4
          have hnew : IsPtr t w4 [.pointer (some ⟨w2.heap.size, 0, none⟩)] (csAt l j) := ⟨_, rfl, by rw [hpc.out]; exact hk4.block _ _ _ _ gx.out (by decide)⟩
          have hrec4 := Lib.hid (((hrec.out.mono (fun c x h => ((h.later b3.out).later bx.out).keeps hk4 (by decide))).push (c := [.pointer (some ⟨w2.heap.size, 0, none⟩)]) rfl hnew))
          have b4 := Lib.hid ((hbl.out.trans ((b3.out.trans (bx.out.mono hzw)).mono hz)).grown g4 (by have := hszx.out; omega) (fun q hq => (own2.out.lt q hq).1))
          have hok4 : Hid (∀ k ∈ acc ++ [j], (symRes (csAt l k).name t).2 = true) := Lib.hid (fun k hk => by
            rcases List.mem_append.1 hk with h | h
            · exact hok.out k h
            · have : k = j := by simpa using h
              subst this
              exact hgood.out)
          have e1 : acc.map (csAt l) ++ [csAt l j] = (acc ++ [j]).map (csAt l) := by simp
          have e2 : acc.length + 1 = (acc ++ [j]).length := by simp
          rw [e1, e2] at hrec4
          rw [e2] at own4
          have own4' := Lib.hid own4
          have hl4 : Hid ((acc ++ [j]).length ≤ j + 1) := Lib.hid (by have := hacc.out; simp; exact this)
          clear own4 g4 at4 hk4 hnew own3 own2 e1 e2 gx hcn b3 bx hrec hok hgood hacc' r1 r2 r3 r4 r5
          go_wp2
          go_roundw
          case rel => exact ⟨j + 1, au, acc ++ [j], _, by omega, by go_num, rfl, hal, hrem1, hok4, own4', hrec4, hl4, b4⟩
          case measure => simp [intOf]; omega
        · have hgood' : (symRes [y0, y1, y2, y3, y4, y5, y6, y7] t).2 = false := by simpa using hgood
          have CALL := Lib.hid (fullName_no wr.heap.size y0 y1 y2 y3 y4 y5 y6 y7 x1 x2 x3 x4 (auxAt l j : Int) 49 A t tn tc _ htn htc htb htr.out gk hgood')
          rw [← hnx] at hgood'
          have hpost : ∀ T v w', RemPost l t n w (.returned (.tuple #[.slice none 0 0, .iface T v])) w' := fun T v w' => .inr ⟨⟨j, hmem2.out, hgood'⟩, T, v, rfl⟩
          replace hpost := Lib.hid hpost
          clear hgood hgood' hnx
          generalize auxAt l j = au at *
          go_wp2_with fail
          refine CALL.out.mono ?_
          rintro e w2 ⟨⟨T, v, rfl⟩, b2⟩
          have b3 := Lib.hid (hbl.out.trans ((bk.out.trans (b2.mono bk.out.size)).mono hz))
          clear b2 CALL
          go_wp2
          go_ret2
          exact ⟨hpost.out _ _ _, b3.out⟩
      · have hrem1 := Lib.hid (rem_pos hrem.out (by omega))
        have hy1 : (0 : Int) < (y : Int) := by omega
        have hwr : IntKind.u8.wrap ((y : Int) - 1) = ((y - 1 : Nat) : Int) := by rw [IntKind.wrap_u8]; omega
        have hrec4 := Lib.hid (hrec.out.mono (fun c x h => h.later bk.out))
        have b4 := Lib.hid (hbl.out.trans (bk.out.mono hz))
        have hl4 : Hid (acc.length ≤ j + 1) := Lib.hid (by have := hacc.out; omega)
        clear hrem hrec gk htr bk hbl hown
        generalize auxAt l j = au at *
        go_wp2
        go_roundw
        case rel => exact ⟨j + 1, y - 1, acc, _, by omega, by go_num, rfl, by omega, hrem1, hok, own1, hrec4, hl4, b4⟩
        case measure => simp [intOf]; omega
    · obtain rfl : j = n := by omega
      have hfin : RemPost l t j w (.returned (.tuple #[u6, .nilIface])) wr := by
        have h := hrem.out
        exact .inl ⟨by rw [h]; exact hok.out, u6, vs, rfl, by rw [h]; exact hown, by rw [h]; exact hrec⟩
      replace hfin := Lib.hid hfin
      go_wp2
      go_ret2
      exact ⟨hfin.out, hbl.out⟩
end Go.Proofs.Ytoobkbnhfkfoaaa
