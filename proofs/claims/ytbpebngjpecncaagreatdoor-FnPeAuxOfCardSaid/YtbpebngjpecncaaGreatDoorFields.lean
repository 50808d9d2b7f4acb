/-
  The reference's numbers one behind the other: its contract, and that of the comparison of two lists of numbers.
-/
import Derived.Test.YtbpebngjpecncaaGreatDoorNum
import Derived.Test.YtbpebngjpecncaaGreatDoorText
namespace Go.Proofs.YtbpebngjpecncaaGreatDoor
set_option linter.unusedVariables false
set_option linter.unusedSimpArgs false
set_option maxRecDepth 100000
open Go Go.RowKit

/-- A number as a cell of []uint64 holds it; a width as a cell of []int. -/
def uv (x : Nat) : Value := .int .u64 (x : Int)
def iv (x : Int) : Value := .int .i64 x
theorem uv_one (l : List Nat) : ∀ u ∈ l.map uv, u.oneCell' = true := by
  intro u hu
  obtain ⟨x, _, rfl⟩ := List.mem_map.1 hu
  rfl

theorem Tryz.info64 : (Tryz.prog.info? 54).map (fun i => (i.zero, i.size, i.bytes)) = some (some (.int .u64 0), 1, 8) := by kernel_rfl
theorem Tryz.infoInt : (Tryz.prog.info? 3).map (fun i => (i.zero, i.size, i.bytes)) = some (some (.int .i64 0), 1, 8) := by kernel_rfl

theorem RC.one {w : World} {b o : Nat} {v : Value} (h : w.cell? ⟨b, o, none⟩ = some v) : RC w (some ⟨b, o, none⟩) 1 1 [v] :=
  ⟨rfl, fun _ => ⟨_, rfl, fun j u hu => by
    match j, hu with
    | 0, hu =>
      simp at hu
      subst hu
      simpa [Addr.add] using h⟩⟩
theorem RC.get {w : World} {A : Option Addr} {n : Nat} {vs : List Value} (h : RC w A 1 n vs) (j : Nat) (v : Value) (hv : vs[j]? = some v) : ∃ b o, A = some ⟨b, o, none⟩ ∧ w.cell? ⟨b, o + j, none⟩ = some v := by
  have hlt : j < vs.length := (List.getElem?_eq_some_iff.1 hv).1
  obtain ⟨a, rfl, hc⟩ := h.2 (by have := h.1; omega)
  obtain ⟨b, o, spot⟩ := a
  have h0 : vs[0]? = some (vs[0]'(by omega)) := List.getElem?_eq_getElem (by omega)
  have hs : spot = none := by simpa [Addr.add] using World.cell?_spot (hc 0 _ h0)
  subst hs
  refine ⟨b, o, rfl, ?_⟩
  rw [← add_off]
  exact hc j v hv
theorem RC.later {w w' : World} {A : Option Addr} {k n : Nat} {vs : List Value} (h : RC w A k n vs) (hb : Below w.heap.size w w') : RC w' A k n vs :=
  ⟨h.1, fun h0 => by
    obtain ⟨a, rfl, hc⟩ := h.2 h0
    exact ⟨a, rfl, fun j u hu => (hb.cell (p := a.add j) (World.block_lt_of_cell? w _ (hc j u hu))).trans (hc j u hu)⟩⟩
theorem RC.of_owns {w : World} {base : Nat} {e : TypeId} {v : Value} {n : Nat} {vs : List Value} (h : w.ownsRow base e 1 v n vs) :
    ∃ A c, v = .slice A n c ∧ RC w A 1 n vs ∧ n ≤ c ∧ c ≤ maxLen := by
  rcases h.2 with ⟨rfl, h0⟩ | ⟨g, cap, cur, rfl, hbg, hg, hnc, hcm, hcs, htake⟩
  · subst h0
    exact ⟨none, 0, rfl, ⟨h.1, fun h => absurd h (Nat.lt_irrefl 0)⟩, Nat.le_refl _, Nat.zero_le _⟩
  · exact ⟨_, cap, rfl, ⟨h.1, fun _ => ⟨_, rfl, h.cells (g := g) rfl⟩⟩, hnc, hcm⟩

/-- The numbers one behind the other; widths below 0 are stepped over. -/
def fieldsOf (big : Bool) : List Int → List UInt8 → Option (List Nat)
  | [], _ => some []
  | w :: ws, l => if l.length < w.natAbs then none else (fieldsOf big ws (l.drop w.natAbs)).map fun r => if 0 < w then num big (l.take w.natAbs) :: r else r

set_option maxHeartbeats 400000 in
theorem same_yes (A B : Option Addr) (n c d : Nat) (xs : List Nat) (w : World) (hb : n ≤ 2147483647) (hA : RC w A 1 n (xs.map uv)) (hB : RC w B 1 n (xs.map uv)) :
    Calls Tryz.prog 9 #[.slice A n c, .slice B n d] w fun e w' => e = .returned (.bool true) ∧ ∃ q, w' = w.drewN q := by
  go_enter Tryz.func9, Tryz.ntmps9
  go_wp2
  go_loopw [5, 13] (fun _ i wr => ∃ k q : Nat, k ≤ n ∧ i = .int .i64 k ∧ wr = w.drewN q) (fun _ i _ => n - (intOf i).toNat)
  case atStart => exact ⟨0, 0, Nat.zero_le _, rfl, rfl⟩
  case round =>
    obtain ⟨k, q, hk, rfl, rfl⟩ := hrel
    by_cases hkn : k < n
    · have hl : k < xs.length := by have := hA.1; simp at this; omega
      have hv : (xs.map uv)[k]? = some (.int .u64 (xs[k] : Int)) := by simp [hl, uv]
      obtain ⟨b1, o1, rfl, c1⟩ := hA.get k _ hv
      obtain ⟨b2, o2, rfl, c2⟩ := hB.get k _ hv
      clear hv
      generalize xs[k] = x at *
      go_wp2
      go_quiet (fail)
      go_wp2
      go_roundw
      case rel => exact ⟨k + 1, _, by omega, by go_num, rfl⟩
      case measure => simp [intOf]; omega
    · obtain rfl : k = n := by omega
      go_wp2
      go_ret
      exact ⟨rfl, q, rfl⟩

set_option maxHeartbeats 400000 in
theorem fours_any (k : Nat) (hk : k ≤ 1000) (w : World) :
    Calls Tryz.prog 13 #[.int .i64 k] w fun e w' => (∃ v, e = .returned v ∧ w'.ownsRow w.heap.size 3 1 v k ((List.replicate k (4 : Int)).map iv)) ∧ Below w.heap.size w w' := by
  obtain ⟨i0, hi, hz0, hz1, hz2⟩ := info_parts Tryz.infoInt
  go_enter Tryz.func13, Tryz.ntmps13
  go_wp2
  go_loopw [3, 6] (fun v i wr => ∃ j : Nat, j ≤ k ∧ i = .int .i64 j ∧ wr.ownsRow w.heap.size 3 1 v j ((List.replicate j (4 : Int)).map iv) ∧ Below w.heap.size w wr) (fun _ i _ => k - (intOf i).toNat)
  case atStart => exact ⟨0, Nat.zero_le _, rfl, World.ownsRow_made w #[] 0 (Nat.le_refl _) (by simp [maxLen]) (by simp), (Below.refl _ _).alloc (Nat.le_refl _) _⟩
  case round =>
    obtain ⟨j, hj, rfl, hown, hb⟩ := hrel
    have hz := hb.size
    by_cases hjk : j < k
    · go_wp2_with (at_builtin; refine Stop.mk ?_)
      refine Stop.go ?_
      refine wpList_append_any rfl (.tmp 8) (.tmp 9) 28 rfl w.heap.size 3 i0 (.int .i64 0) 1 8 Tryz.underlying28 hi hz0 hz1 hz2 rfl (by omega) _ j _ rfl (hown.alloc _) (some ⟨wr.heap.size, 0, none⟩) 1 1 [iv 4] rfl (RC.one (World.cell?_alloc_new _ _ _ _)) (fun u hu => by simp at hu; subst hu; rfl) (by simp only [maxLen]; omega) (by omega) (by simp; omega) ?_
      intro v1 w1 hown1 hg1 hat1
      have hb1 : Below w.heap.size w w1 := (hb.alloc hz _).grown hg1 (by simp; omega) (fun q hq => (hown.lt q hq).1)
      have e1 : ((List.replicate j (4 : Int)).map iv) ++ [iv 4] = (List.replicate (j + 1) (4 : Int)).map iv := by simp [List.replicate_succ']
      rw [e1] at hown1
      clear hg1 hat1 hown hb
      go_wp2
      go_roundw
      case rel => exact ⟨j + 1, by omega, by go_num, hown1, hb1⟩
      case measure => simp [intOf]; omega
    · obtain rfl : j = k := by omega
      go_wp2
      go_ret
      exact ⟨⟨_, rfl, hown⟩, hb⟩

theorem fields_short {big : Bool} {x : Int} {ws : List Int} {l : List UInt8} {acc : List Nat} {F : Option (List Nat)} (h : F = (fieldsOf big (x :: ws) l).map (acc ++ ·)) (hl : l.length < x.natAbs) : F = none := by
  rw [h]; simp [fieldsOf, hl]
theorem fields_pos {big : Bool} {p : Nat} {ws : List Int} {l : List UInt8} {acc : List Nat} {F : Option (List Nat)} (h : F = (fieldsOf big ((p : Int) :: ws) l).map (acc ++ ·)) (hp : 0 < p) (hl : p ≤ l.length) : F = (fieldsOf big ws (l.drop p)).map ((acc ++ [num big (l.take p)]) ++ ·) := by
  rw [h]
  have h1 : ¬ l.length < p := by omega
  have h2 : (0 : Int) < (p : Int) := by omega
  simp only [fieldsOf, Int.natAbs_natCast, if_neg h1, if_pos h2, Option.map_map]
  congr 1
  funext r
  simp
theorem fields_neg {big : Bool} {p : Nat} {ws : List Int} {l : List UInt8} {acc : List Nat} {F : Option (List Nat)} (h : F = (fieldsOf big (-(p : Int) :: ws) l).map (acc ++ ·)) (hl : p ≤ l.length) : F = (fieldsOf big ws (l.drop p)).map (acc ++ ·) := by
  rw [h]
  have h1 : ¬ l.length < p := by omega
  have h2 : ¬ (0 : Int) < (-(p : Int)) := by omega
  simp only [fieldsOf, Int.natAbs_neg, Int.natAbs_natCast, if_neg h1, if_neg h2]
  congr 1
  simp

set_option maxRecDepth 100000 in
set_option maxHeartbeats 1000000 in
theorem fields_any (big : Bool) (A Bs : Option Addr) (l : List UInt8) (ws : List Int) (n c m d : Nat) (hn : Hid (n = l.length)) (hc : n ≤ c) (hb : n ≤ 2147483647) (hm : Hid (m = ws.length)) (hm1 : m ≤ 1000) (hws : Hid (∀ x ∈ ws, -1000 ≤ x ∧ x ≤ 8)) (w : World) (hA : Hid (RB w A l)) (hW : Hid (RC w Bs 1 m (ws.map iv))) :
    Calls Tryz.prog 7 #[.bool big, .slice Bs m d, .slice A n c] w fun e w' => ((fieldsOf big ws l = none ∧ e = .returned (.tuple #[.slice none 0 0, .bool false])) ∨ (∃ r v, fieldsOf big ws l = some r ∧ e = .returned (.tuple #[v, .bool true]) ∧ w'.ownsRow w.heap.size 54 1 v r.length (r.map uv))) ∧ Below w.heap.size w w' := by
  obtain ⟨i0, hi, hz0, hz1, hz2⟩ := info_parts Tryz.info64
  obtain ⟨i1, hi1, hy0', hy1', hy2'⟩ := info_parts Tryz.infoByte
  obtain ⟨F, hF⟩ : ∃ F, fieldsOf big ws l = F := ⟨_, rfl⟩
  rw [hF]
  have HF := Lib.hid hF
  clear hF
  go_enter Tryz.func7, Tryz.ntmps7
  go_wp2
  go_loopw [2, 8, 10, 11, 15] (fun b v _ _ i wr => ∃ (k : Nat) (A' : Option Addr) (n' c' : Nat) (l' : List UInt8) (acc : List Nat), k ≤ m ∧ i = .int .i64 k ∧ b = .slice A' n' c' ∧ n' ≤ c' ∧ n' ≤ 2147483647 ∧ Hid (n' = l'.length) ∧ Hid (RB w A' l') ∧ Hid (wr.ownsRow w.heap.size 54 1 v acc.length (acc.map uv)) ∧ Hid (Below w.heap.size w wr) ∧ Hid (F = (fieldsOf big (ws.drop k) l').map (acc ++ ·)) ∧ acc.length ≤ k) (fun _ _ _ _ i _ => m - (intOf i).toNat)
  case atStart => exact ⟨0, A, n, c, l, [], Nat.zero_le _, rfl, rfl, hc, hb, hn, hA, Lib.hid (World.ownsRow_made w #[] 0 (Nat.le_refl _) (by simp [maxLen]) (by simp)), Lib.hid ((Below.refl _ _).alloc (Nat.le_refl _) _), Lib.hid (by rw [← HF.out]; simp), Nat.zero_le _⟩
  case round =>
    obtain ⟨k, A', n', c', l', acc, hk, rfl, rfl, hc', hb', hn', hA', hown, hbl, hFk, hacc⟩ := hrel
    by_cases hkm : k < m
    · have hl : k < ws.length := by have := hm.out; omega
      have hv : (ws.map iv)[k]? = some (.int .i64 (ws[k] : Int)) := by simp [hl, iv]
      obtain ⟨b1, o1, rfl, c1⟩ := (hW.out.later hbl.out).get k _ hv
      have hx := hws.out ws[k] (List.getElem_mem hl)
      have hd : Hid (ws.drop k = ws[k] :: ws.drop (k + 1)) := Lib.hid (List.drop_eq_getElem_cons hl)
      clear hv
      generalize ws[k] = x at *
      rw [hd.out] at hFk
      have hbb := hbl.out.size
      have hlen := hn'.out
      replace c1 := Lib.hid c1
      have hlt : k + 1 ≤ 1000 := by omega
      have hmem := hm1
      by_cases hpos : 0 < x
      · obtain ⟨p, rfl⟩ : ∃ p : Nat, x = (p : Int) := ⟨x.toNat, by omega⟩
        obtain ⟨y, hy⟩ : ∃ y : Int, y = -(p : Int) := ⟨_, rfl⟩
        have hw1 : IntKind.i64.wrap (-(p : Int)) = y := by rw [hy]; exact IntWalk.i64_in _ (by omega)
        have hy1 : y < (p : Int) := by omega
        have hmx : max (p : Int) y = (p : Int) := by omega
        have hy0 := Lib.hid hy
        clear hy
        have hp8 : p ≤ 8 := by omega
        have hpp : 0 < p := by omega
        by_cases hs : n' < p
        · have HF := Lib.hid (fields_short hFk.out (by simp; omega))
          have c1 := c1.out
          clear hlen hx hl hacc hbb hlt
          go_wp2
          go_ret2
          exact ⟨.inl ⟨HF.out, rfl⟩, hbl.out⟩
        · have HF := Lib.hid (fields_pos hFk.out hpp (by omega))
          have R' := Lib.hid (hA'.out.later hbl.out)
          have hslice := fun W => run_slice_from (P := Tryz.prog) Tryz.underlying34 hi1 hy1' A' n' c' p .i64 (by omega) W
          have hA2 := Lib.hid (hA'.out.drop (c := c') (by omega) p)
          have hn2 := Lib.hid (show n' - p = (l'.drop p).length by simp; omega)
          have hsz : acc.length ≤ 1000 := by omega
          have c1 := c1.out
          clear hx hl hlt hFk hd
          replace hacc := Lib.hid hacc
          replace hlen := Lib.hid hlen
          replace hbb := Lib.hid hbb
          go_wp2_with fail
          refine (specNumber_any big A' l' n' c' p hlen.out (by omega) hp8 wr R'.out).mono ?_
          rintro e w' ⟨rfl, rfl⟩
          go_wp2_with (at_builtin; refine Stop.mk ?_)
          refine Stop.go ?_
          refine wpList_append_any rfl (.tmp 29) (.tmp 34) 25 rfl w.heap.size 54 i0 (.int .u64 0) 1 8 Tryz.underlying25 hi hz0 hz1 hz2 rfl (by omega) _ acc.length _ rfl (hown.out.alloc _) (some ⟨wr.heap.size, 0, none⟩) 1 1 [uv (num big (l'.take p))] rfl (RC.one (World.cell?_alloc_new _ _ _ _)) (fun u hu => by simp at hu; subst hu; rfl) (by simp only [maxLen]; omega) (by omega) (by have := hbb.out; simp; omega) ?_
          intro v1 w1 hown1 hg1 hat1
          have hb1 := Lib.hid ((hbl.out.alloc hbb.out _).grown hg1 (by have := hbb.out; simp; omega) (fun q hq => (hown.out.lt q hq).1))
          have e1 : (acc.map uv) ++ [uv (num big (l'.take p))] = (acc ++ [num big (l'.take p)]).map uv := by simp
          rw [e1] at hown1
          have hown1 := Lib.hid hown1
          clear hg1 hat1 hown hbl e1
          go_wp2
          go_roundw
          case rel => exact ⟨k + 1, _, _, _, _, _, by omega, by go_num, rfl, by omega, by omega, hn2, hA2, by simpa using hown1, hb1, HF, by have := hacc.out; simp; omega⟩
          case measure => simp [intOf]; omega
      · obtain ⟨p, rfl⟩ : ∃ p : Nat, x = -(p : Int) := ⟨x.natAbs, by omega⟩
        obtain ⟨y, hy⟩ : ∃ y : Int, y = -(p : Int) := ⟨_, rfl⟩
        have hp8 : p ≤ 1000 := by omega
        have hw1 : IntKind.i64.wrap (-y) = (p : Int) := by rw [hy]; simpa using IntWalk.i64_in (p : Int) (by omega)
        have hFs : n' < p → F = none := fun hs => fields_short hFk.out (by simp; omega)
        have hFn : p ≤ n' → _ := fun hs => fields_neg hFk.out (by omega)
        rw [← hy] at c1
        have c1 := c1.out
        have hy1 : ¬ (p : Int) < y := by omega
        have hy2 : ¬ 0 < y := by omega
        have hmx : max y (p : Int) = (p : Int) := by omega
        clear hd hFk hx hpos hy
        replace hFs := Lib.hid hFs
        replace hFn := Lib.hid hFn
        replace hlen := Lib.hid hlen
        replace hacc := Lib.hid hacc
        replace hbb := Lib.hid hbb
        by_cases hs : n' < p
        · go_wp2
          go_ret2
          exact ⟨.inl ⟨hFs.out hs, rfl⟩, hbl.out⟩
        · have HF := Lib.hid (hFn.out (by omega))
          have hslice := fun W => run_slice_from (P := Tryz.prog) Tryz.underlying34 hi1 hy1' A' n' c' p .i64 (by omega) W
          have hA2 := Lib.hid (hA'.out.drop (c := c') (by have := hlen.out; omega) p)
          have hn2 := Lib.hid (show n' - p = (l'.drop p).length by have := hlen.out; simp; omega)
          go_wp2
          go_roundw
          case rel => exact ⟨k + 1, _, _, _, _, _, by omega, by go_num, rfl, by omega, by omega, hn2, hA2, hown, hbl, HF, by have := hacc.out; omega⟩
          case measure => simp [intOf]; omega
    · obtain rfl : k = m := by omega
      have hk0 : ws.drop k = [] := List.drop_of_length_le (by have := hm.out; omega)
      have e := hFk.out
      rw [hk0] at e
      simp [fieldsOf] at e
      have e := Lib.hid e
      clear hk0
      go_wp2
      go_ret2
      exact ⟨.inr ⟨acc, _, e.out, rfl, hown.out⟩, hbl.out⟩
end Go.Proofs.YtbpebngjpecncaaGreatDoor
