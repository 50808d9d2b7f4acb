/-
  Directories: the contracts of readDirectories, readDataDirectories over a section.
-/
import Derived.Test.YtbpebngjpecncaaGreatDoorDataDirectoryP
import Derived.Test.YtbpebngjpecncaaGreatDoorRelocsP
namespace Go.Proofs.YtbpebngjpecncaaGreatDoor
set_option linter.unusedVariables false
set_option linter.unusedSimpArgs false
set_option maxRecDepth 100000
open Go Go.RowKit
attribute [local go_sem ↓] Go.wp_at_zero Go.wp_at_succ

/-- So many relocations of noughts; those out of bytes. -/
def zerosD : Nat → List Value
  | 0 => []
  | n + 1 => .int .u32 0 :: .int .u32 0 :: zerosD n
def dirRow (s : List UInt8) : Nat → List Value
  | 0 => []
  | n + 1 => dirRow s n ++ fDataDirectory false ((s.drop (8 * n)).take 8)
theorem dirRow_len (s : List UInt8) : ∀ n, (dirRow s n).length = n * 2
  | 0 => rfl
  | n + 1 => by
    rw [dirRow, List.length_append, dirRow_len s n]
    simp [fDataDirectory]
    omega
theorem zerosD_len : ∀ n, (zerosD n).length = n * 2
  | 0 => rfl
  | n + 1 => by
    rw [zerosD]
    simp [zerosD_len n]
    omega

set_option maxRecDepth 100000 in
set_option maxHeartbeats 1000000 in
theorem readDirectories_all (rd : Value) (M G : Nat) (D : Nat → Prop) (l : List UInt8) (pos n : Nat) (w : World) (hR : Hid (Rdr w rd M D l pos)) (hpos : Hid (pos + 8 * n ≤ l.length)) (hn : 0 < n) (hn' : n ≤ 65535)
    (hGM : G ≠ M) (hGD : Hid (¬ D G)) (hG : Hid (w.heap[G]? = some (.cells (zerosD n).toArray 165 (0, 0)))) :
    Calls Tryz.prog 60 #[rd, .slice (some ⟨G, 0, none⟩) n n] w fun e w' => e = .returned .nilIface ∧
      Hid (w'.heap[G]? = some (.cells (dirRow ((l.drop pos).take (8 * n)) n).toArray 165 (0, 0))) ∧ Hid (Rdr w' rd M D l (pos + 8 * n)) ∧ Chg (fun k => k = M ∨ k = G) w w' := by
  obtain ⟨cur, hF, hmk⟩ := makeBytesN (8 * n) (by omega)
  have ec : ((8 * n : Nat) : Int) = 8 * (n : Int) := by omega
  rw [ec] at hmk
  have hw1 : IntKind.i64.wrap (8 * (n : Int)) = 8 * (n : Int) := IntWalk.i64_in _ (by omega)
  have hRlt : M < w.heap.size := hR.out.lt
  have hGlt : G < w.heap.size := (Array.getElem?_eq_some_iff.1 hG.out).1
  have g1 := Lib.hid (heap_alloc_new w (.cells cur.toArray 5))
  have c0 : Chg (fun k => k = M ∨ k = G) w (w.alloc (.cells cur.toArray 5)) := (Chg.refl _ w).alloc _
  have G1 := row_alloc hG (.cells cur.toArray 5)
  have R1 := Lib.hid (hR.out.later ((Below.refl _ w).alloc (Nat.le_refl _) (.cells cur.toArray 5)))
  have hgD : Hid (¬ D w.heap.size) := Lib.hid (fun e => absurd (hR.out.d _ e).1 (Nat.lt_irrefl _))
  have hs := Lib.hid (show ((l.drop pos).take (8 * n)).length = 8 * n by have := hpos.out; simp; omega)
  obtain ⟨s, hS⟩ : ∃ s, (l.drop pos).take (8 * n) = s := ⟨_, rfl⟩
  rw [hS] at hs ⊢
  have HS := Lib.hid hS
  replace ec := Lib.hid ec
  clear hS
  go_enter Tryz.func60, Tryz.ntmps60
  go_wp2_with fail
  refine (rdr_full rd M w.heap.size D l pos (8 * n) 5 cur _ R1 hpos (by omega) g1 hF hgD (by omega)).mono ?_
  rintro e w2 ⟨rfl, R2, g2, hc2, hs2⟩
  rw [HS.out] at g2
  have G2 := Lib.hid (hc2.row G1.out (by omega))
  have B2 : Hid (RB w2 (some ⟨w.heap.size, 0, none⟩) s) := Lib.hid (RB.of_row g2.out)
  have C2 : Chg (fun k => k = M ∨ k = G) w w2 := c0.trans (hc2.mono fun k _ e => by rcases e with e | e <;> omega)
  have hg2 : w.heap.size < w2.heap.size := (Array.getElem?_eq_some_iff.1 g2.out).1
  have hM2 : M < w2.heap.size := R2.out.lt
  replace hs2 := Lib.hid hs2
  replace C2 := Lib.hid C2
  clear hc2 g2 g1 c0 G1 R1 hmk hgD
  generalize w.heap.size = g at *
  go_wp2
  go_loopw [8, 24] (fun _ i wr => ∃ k : Nat, k ≤ n ∧ i = .int .i64 k ∧ Hid (wr.heap[G]? = some (.cells (dirRow s k ++ zerosD (n - k)).toArray 165 (0, 0))) ∧ Hid (Chg (· = G) w2 wr)) (fun _ i _ => n - (intOf i).toNat)
  case atStart => exact ⟨0, Nat.zero_le _, rfl, G2, Lib.hid (Chg.refl _ _)⟩
  case round =>
    obtain ⟨k, hk, rfl, hrow, hch⟩ := hrel
    by_cases hkn : k < n
    · have hz := hch.out.size
      have Bk : RB wr (some ⟨g, 8 * k, none⟩) (s.drop (8 * k)) := by
        have := (B2.out.chg hch.out (fun a ha => by cases ha; show ¬ g = G; omega)).drop (c := 8 * n) (by rw [hs.out]; omega) (8 * k)
        rwa [slA_some g 0 (8 * n) (8 * k) (by omega), Nat.zero_add] at this
      have hsl : ∀ W, (Instr.slice 34 (.slice (some ⟨g, 0, none⟩) (8 * n) (8 * n)) (some (.int .i64 (8 * (k : Int)))) none none).run Tryz.prog W = .ok (.slice (some ⟨g, 8 * k, none⟩) (8 * n - 8 * k) (8 * n - 8 * k)) W := fun W => by
        have h := run_slice_from (P := Tryz.prog) Tryz.underlying34 (info_parts Tryz.infoByte).choose_spec.1 (info_parts Tryz.infoByte).choose_spec.2.2.1 (some ⟨g, 0, none⟩) (8 * n) (8 * n) (8 * k) .i64 (by omega) W
        rw [slA_some g 0 (8 * n) (8 * k) (by omega), Nat.zero_add] at h
        rw [show (8 * (k : Int)) = ((8 * k : Nat) : Int) by omega]
        exact h
      have hw2 : IntKind.i64.wrap (8 * (k : Int)) = 8 * (k : Int) := IntWalk.i64_in _ (by omega)
      have hi0 : (0 : Int) ≤ (k : Int) := by omega
      have hi1 : (k : Int) < (n : Int) := by omega
      have er : dirRow s k ++ zerosD (n - k) = dirRow s k ++ ([.int .u32 0, .int .u32 0] ++ zerosD (n - (k + 1))) := by
        rw [show n - k = (n - (k + 1)) + 1 by omega]
        rfl
      rw [er] at hrow
      have R0 := Lib.hid (Rdr.made (w := wr) (A := some ⟨g, 8 * k, none⟩) (n := 8 * n - 8 * k) (c := 8 * n - 8 * k) (l := s.drop (8 * k)) (by rw [List.length_drop, hs.out]) (by omega) (Nat.le_refl _) Bk (fun a ha => by cases ha; show g < wr.heap.size; omega))
      have hr1 := row_alloc hrow (.cells #[.slice (some ⟨g, 8 * k, none⟩) (8 * n - 8 * k) (8 * n - 8 * k), .int .i64 0, .int .i64 (-1)] 141)
      have hGlt2 : G < wr.heap.size := (Array.getElem?_eq_some_iff.1 hrow.out).1
      have hO := Lib.hid (dirRow_len s k)
      have hDG : Hid (¬ ∃ a, (some ⟨g, 8 * k, none⟩ : Option Addr) = some a ∧ a.block = G) := Lib.hid (fun ⟨a, ha, e⟩ => by cases ha; simp only at e; omega)
      have hps := Lib.hid (show 0 + 8 ≤ (s.drop (8 * k)).length by rw [List.length_drop, hs.out]; omega)
      clear er Bk
      go_wp2_with fail
      go_region_held3 (fun _ => True) (trivial) (first | (go_at_call 29; refine (newReader _ (some ⟨g, 8 * k, none⟩) (8 * n - 8 * k) (8 * n - 8 * k) rfl _).mono ?_; rintro e w' ⟨rfl, rfl⟩) | (go_at_call 65; refine (readDataDirectory_all G wr.heap.size (dirRow s k) (zerosD (n - (k + 1))) (k * 2) (.iface 85 (.pointer (some ⟨wr.heap.size, 0, none⟩))) (fun b => ∃ a, (some ⟨g, 8 * k, none⟩ : Option Addr) = some a ∧ a.block = b) (s.drop (8 * k)) 0 false 165 _ hO (by first | exact R0 | exact Lib.hid R0.out.drew) hps (by omega) hDG (by exact hr1)).mono ?_; rintro e w4 ⟨rfl, R4, V4, C4⟩; (try replace C4 := Chg.undrew C4)))
      have e2 : dirRow s k ++ (fDataDirectory false (((s.drop (8 * k)).drop 0).take 8) ++ zerosD (n - (k + 1))) = dirRow s (k + 1) ++ zerosD (n - (k + 1)) := by
        rw [List.drop_zero, dirRow, List.append_assoc]
      rw [e2] at V4
      have hch' := Lib.hid (hch.out.trans ((((Chg.refl (fun x => x = G ∨ w2.heap.size ≤ x) wr).alloc (.cells #[.slice (some ⟨g, 8 * k, none⟩) (8 * n - 8 * k) (8 * n - 8 * k), .int .i64 0, .int .i64 (-1)] 141)).trans (C4.mono (fun x _ hx => by rcases hx with hx | hx <;> omega)))))
      clear e2 hsl C4 R4 hr1 R0
      go_wp2
      go_roundw
      case rel => exact ⟨k + 1, by omega, by go_num, V4, hch'⟩
      case measure => simp [intOf]; omega
    · obtain rfl : k = n := by omega
      go_wp2
      go_ret
      rw [Nat.sub_self, zerosD, List.append_nil] at hrow
      have hch2 := C2.out.trans (hch.out.mono (fun x _ hx => .inl (.inr hx)))
      exact ⟨rfl, hrow, Lib.hid (R2.out.chg hch.out (fun e => hGM e.symm) (fun x hx e => hGD.out (e ▸ hx))), hch2⟩

theorem zerosD_flat : ∀ n, (List.replicate n [.int .u32 0, .int .u32 0]).flatten = zerosD n
  | 0 => rfl
  | n + 1 => by
    rw [List.replicate_succ, List.flatten_cons, zerosD_flat n]
    rfl
theorem Tryz.infoDir : (Tryz.prog.info? 165).map (fun i => (i.zero, i.size, i.bytes)) = some (some (.agg #[.int .u32 0, .int .u32 0]), 2, 8) := by kernel_rfl
theorem makeDirs (k : IntKind) (n : Nat) (hn : n ≤ 65535) (w : World) : (Instr.makeSlice 170 (.int k (n : Int)) (.int k (n : Int))).run Tryz.prog w = .ok (.slice (some ⟨w.heap.size, 0, none⟩) n n) (w.alloc (.cells (zerosD n).toArray 165)) := by
  obtain ⟨i0, hi, hz0, hz1, hz2⟩ := info_parts Tryz.infoDir
  have hr := run_make (P := Tryz.prog) w 170 165 i0 _ Tryz.underlying170 hi hz0 k k n n (by omega) (by omega) (by rw [hz2]; omega) (by omega)
  have e : madeCells (Value.cells (.agg #[.int .u32 0, .int .u32 0])) (((n : Int)).toNat * i0.size) = (zerosD n).toArray := by
    rw [hz1]
    apply Array.toList_inj.1
    have := made_flat #[.int .u32 0, .int .u32 0] n
    rw [← zerosD_flat]
    simpa [Value.cells] using this
  rw [e] at hr
  simpa using hr


set_option maxHeartbeats 1000000 in
/-- Nothing is read full. -/
theorem readFull_zero (rd : Value) (A : Option Addr) (c : Nat) (w : World) : Calls Tryz.prog 44 #[rd, .slice A 0 c] w fun e w' => e = .returned (.tuple #[.int .i64 0, .nilIface]) ∧ w = w' := by
  have H : Hid (Calls Tryz.prog 57 #[rd, .slice A 0 c, .int .i64 0] w fun e w' => e = .returned (.tuple #[.int .i64 0, .nilIface]) ∧ w = w') := Lib.hid (by
    go_enter Tryz.func57, Tryz.ntmps57
    go_wp2
    refine wp_loop_rounds 1 ?_
    rw [rounds_succ]
    go_wp2
    go_ret2
    exact ⟨rfl, rfl⟩)
  go_enter Tryz.func44, Tryz.ntmps44
  go_wp2_with fail
  refine H.out.mono ?_
  rintro e w' ⟨rfl, rfl⟩
  go_wp2
  go_ret2
  exact ⟨rfl, rfl⟩

set_option maxHeartbeats 1000000 in
theorem readDirectories_zero (rd : Value) (G : Nat) (w : World) : Calls Tryz.prog 60 #[rd, .slice (some ⟨G, 0, none⟩) 0 0] w fun e w' => e = .returned .nilIface ∧ Below w.heap.size w w' := by
  have hmk : ∀ w, (Instr.makeSlice 34 (.int .i64 0) (.int .i64 0)).run Tryz.prog w = .ok (.slice (some ⟨w.heap.size, 0, none⟩) 0 0) (w.alloc (.cells #[] 5)) := fun _ => by kernel_rfl
  go_enter Tryz.func60, Tryz.ntmps60
  go_wp2_with fail
  refine (readFull_zero rd _ _ _).mono ?_
  rintro e w' ⟨rfl, rfl⟩
  go_wp2
  refine wp_loop_rounds 1 ?_
  rw [rounds_succ]
  go_wp2
  go_ret
  exact ⟨rfl, (Below.refl _ _).alloc (Nat.le_refl _) _⟩

set_option maxHeartbeats 1000000 in
theorem readDirs_any (M n pos : Nat) (D : Nat → Prop) (l : List UInt8) (w : World) (hn : n ≤ 16) (hR : Hid (Rdr w (secV M) M D l pos)) (hpos : Hid (pos + 8 * n ≤ l.length)) :
    Calls Tryz.prog 52 #[secV M, .int .u16 ((8 * n : Nat) : Int), .int .u32 n] w fun e w' => (∃ G, e = .returned (.tuple #[.slice (some ⟨G, 0, none⟩) n n, .nilIface]) ∧ w.heap.size ≤ G ∧ Hid (w'.heap[G]? = some (.cells (dirRow ((l.drop pos).take (8 * n)) n).toArray 165 (0, 0)))) ∧ Hid (Rdr w' (secV M) M D l (pos + 8 * n)) ∧ Chg (· = M) w w' := by
  have q1 : IntKind.u64.wrap ((8 * n : Nat) : Int) = ((8 * n : Nat) : Int) := IntWalk.u64_in _ (by omega)
  have q2 : IntKind.u64.wrap (n : Int) = (n : Int) := IntWalk.u64_in _ (by omega)
  have q3 : IntKind.u64.wrap ((n : Int) * 8) = ((8 * n : Nat) : Int) := by rw [IntWalk.u64_in _ (by omega)]; omega
  have q4 : (((8 * n : Nat) : Int) != ((8 * n : Nat) : Int)) = false := by simp
  have hmk := makeDirs .u32 n (by omega)
  have hmk2 := fun w => hmk w
  have R2 := Lib.hid (hR.out.later ((Below.refl _ w).alloc (Nat.le_refl _) (.cells (zerosD n).toArray 165)))
  have G2 := Lib.hid (heap_alloc_new w (.cells (zerosD n).toArray 165))
  have C2 : Hid (Chg (· = M) w (w.alloc (.cells (zerosD n).toArray 165))) := Lib.hid ((Chg.refl _ w).alloc _)
  have hGD : Hid (¬ D w.heap.size) := Lib.hid (fun e => absurd (hR.out.d _ e).1 (Nat.lt_irrefl _))
  have hM1 := hR.out.lt
  by_cases hn0 : n = 0
  · subst hn0
    have hmk0 : ∀ w, (Instr.makeSlice 170 (.int .u32 0) (.int .u32 0)).run Tryz.prog w = .ok (.slice (some ⟨w.heap.size, 0, none⟩) 0 0) (w.alloc (.cells (zerosD 0).toArray 165)) := fun w => makeDirs .u32 0 (by omega) w
    clear hmk hmk2
    have CALL := Lib.hid (readDirectories_zero (secV M) w.heap.size (w.alloc (.cells (zerosD 0).toArray 165)))
    go_enter Tryz.func52, Tryz.ntmps52
    go_wp2_with fail
    refine CALL.out.mono ?_
    rintro e w3 ⟨rfl, b3⟩
    have R3 := Lib.hid (R2.out.later b3)
    have G3 := row_later b3 G2
    have C4 := Lib.hid (C2.out.trans (Chg.of_below b3 (fun k _ h => .inr (by have := C2.out.size; omega))))
    clear b3 C2
    go_wp2
    go_ret2
    exact ⟨⟨_, rfl, Nat.le_refl _, G3⟩, R3, C4.out⟩
  · have CALL := Lib.hid (readDirectories_all (secV M) M w.heap.size D l pos n _ R2 hpos (by omega) (by omega) (by omega) hGD G2)
    go_enter Tryz.func52, Tryz.ntmps52
    go_wp2_with fail
    refine CALL.out.mono ?_
    rintro e w3 ⟨rfl, G3, R3, C3⟩
    have C4 := Lib.hid (C2.out.trans (C3.mono (fun k _ hk => by rcases hk with hk | hk <;> omega)))
    clear C3 C2
    go_wp2
    go_ret2
    exact ⟨⟨_, rfl, Nat.le_refl _, G3⟩, R3, C4.out⟩
end Go.Proofs.YtbpebngjpecncaaGreatDoor
