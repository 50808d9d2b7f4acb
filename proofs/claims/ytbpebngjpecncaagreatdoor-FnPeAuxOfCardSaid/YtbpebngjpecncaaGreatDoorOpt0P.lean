/-
  The optional header: the contracts of the closure that reads a field, of readOptionalHeader.
-/
import Derived.Test.YtbpebngjpecncaaGreatDoorNumbersP
import Derived.Test.YtbpebngjpecncaaGreatDoorDirsP
namespace Go.Proofs.YtbpebngjpecncaaGreatDoor
set_option linter.unusedVariables false
set_option linter.unusedSimpArgs false
set_option maxRecDepth 100000
open Go Go.RowKit
attribute [local go_sem ↓] Go.wp_at_zero Go.wp_at_succ

theorem run_copy_rowN {P : Program} (w : World) (dT sT ty elem : TypeId) (g o dLen dCap : Nat) (a : Addr) (sLen sCap size m : Nat) (cur : Array Value) (t : TypeId) (cs : List Value)
    (hu : P.underlying dT = some (.slice elem)) (hs : (P.info? elem).map (·.size) = some size)
    (hg : w.heap[g]? = some (.cells cur t (0, 0))) (hm : m = Nat.min sLen dLen) (hn : cs.length = m * size)
    (hsrc : ∀ j v, cs[j]? = some v → w.cell? (a.add j) = some v) (hfit : o + cs.length ≤ cur.size) (h1 : ∀ v ∈ cs, v.oneCell' = true) :
    (Builtin.copy_ #[dT, sT] ty #[.slice (some ⟨g, o, none⟩) dLen dCap, .slice (some a) sLen sCap]).run P w =
      .ok (goInt m) (w.setRow g (cur.toList.take o ++ cs ++ cur.toList.drop (o + cs.length)).toArray) := by
  have hl := run_loadCells_list (P := P) w a cs hsrc
  have hst := run_storeCells_at P g o t cs 0 cur w hg (by simpa using hfit) h1
  cases hq : P.info? elem with
  | none => simp [hq] at hs
  | some i =>
    have hi : i.size = size := by simpa [hq] using hs
    rw [hn] at hl
    simp [Builtin.copy_, run_underlying hu, Builtin.lenOf, Builtin.firstCells, sizeOf, typeInfo, hq, hi, ← hm, hl, hst]

theorem dirRow_one (s : List UInt8) : ∀ n, ∀ v ∈ dirRow s n, v.oneCell' = true
  | 0, v, h => by cases h
  | n + 1, v, h => by
    rcases List.mem_append.1 h with h | h
    · exact dirRow_one s n v h
    · exact oneDataDirectory false _ v (by simpa using h)
theorem chg_new {S : Nat → Prop} {w w' : World} (b : Below w.heap.size w w') : Chg S w w' := ⟨b.os, b.tape, b.output, b.size, fun k hk _ => b.block k hk⟩
/-- A header that is being read: its row in block V, of which the cells from place i on are as they were in Z; the reader's box, the error's cell; what stands in the cell before. -/
def OptSt (w0 w : World) (V B E M : Nat) (D : Nat → Prop) (l : List UInt8) (Z : List Value) (TV : TypeId) (pos i : Nat) (lv : Option Value) : Prop :=
  ∃ cs : List Value, cs.length = Z.length ∧ (∀ j, i ≤ j → cs[j]? = Z[j]?) ∧ (lv = none ∨ cs[i - 1]? = lv) ∧ (∀ v ∈ cs, v.oneCell' = true) ∧ w.heap[V]? = some (.cells cs.toArray TV (0, 0)) ∧
    w.heap[B]? = some (.cells #[secV M] 152 (0, 0)) ∧ w.heap[E]? = some (.cells #[.nilIface] 70 (0, 0)) ∧ Rdr w (secV M) M D l pos ∧ Chg (· = M) w0 w ∧
    (w0.heap.size ≤ V ∧ w0.heap.size ≤ B ∧ w0.heap.size ≤ E ∧ V ≠ B ∧ V ≠ E ∧ B ≠ E ∧ M < w0.heap.size ∧ ∀ k, D k → k < w0.heap.size)


set_option maxHeartbeats 1000000 in
theorem opt8 (w0 w : World) (V B E M : Nat) (D : Nat → Prop) (l : List UInt8) (Z : List Value) (TV : TypeId) (pos i : Nat) (lv : Option Value) (x : Int) (st : Hid (OptSt w0 w V B E M D l Z TV pos i lv)) (hz : Hid (Z[i]? = some (.int .u8 x))) (hpos : Hid (pos + 1 ≤ l.length)) :
    Calls Tryz.prog 51 #[.iface 169 (.pointer (some ⟨V, i, none⟩)), .pointer (some ⟨B, 0, none⟩), .pointer (some ⟨E, 0, none⟩)] w fun e w' => e = .returned (.bool true) ∧
      Hid (OptSt w0 w' V B E M D l Z TV (pos + 1) (i + 1) (some (.int .u8 ((num false ((l.drop pos).take 1) : Nat) : Int)))) := by
  obtain ⟨cs, hlen, hrest, -, hone, hV, hB, hE, hR, hC, hz0⟩ := st.out
  have cB := World.cell?_of_row (l := [secV M]) hB 0 _ rfl
  have hne : V ≠ M ∧ B ≠ M ∧ E ≠ M ∧ V ≠ B ∧ V ≠ E ∧ B ≠ E ∧ ¬ D V ∧ ¬ D E := by
    obtain ⟨h1, h2, h3, h4, h5, h6, h7, h8⟩ := hz0
    exact ⟨by omega, by omega, by omega, h4, h5, h6, fun e => by have := h8 _ e; omega, fun e => by have := h8 _ e; omega⟩
  have hil : i < cs.length := by
    rw [hlen]
    exact (List.getElem?_eq_some_iff.1 hz.out).1
  have CALL := Lib.hid (readNum8 V M i cs x (secV M) D l pos TV w (Lib.hid hR) hpos hne.1 (Lib.hid hne.2.2.2.2.2.2.1) (Lib.hid hV) (Lib.hid (by rw [hrest i (Nat.le_refl _)]; exact hz.out)))
  obtain ⟨v, hv⟩ : ∃ v, Value.int .u8 ((num false ((l.drop pos).take 1) : Nat) : Int) = v := ⟨_, rfl⟩
  have hv1 : Hid (v.oneCell' = true) := Lib.hid (by rw [← hv]; rfl)
  rw [hv] at CALL ⊢
  replace hlen := Lib.hid hlen
  replace hrest := Lib.hid hrest
  replace hone := Lib.hid hone
  replace hne := Lib.hid hne
  replace hB := Lib.hid hB
  replace hE := Lib.hid hE
  replace hz0 := Lib.hid hz0
  clear st hz hv hR hV
  go_enter Tryz.func51, Tryz.ntmps51
  go_wp2_with fail
  refine CALL.out.mono ?_
  rintro e w1 ⟨rfl, R1, V1, C1⟩
  have hne' := hne.out
  have B1 := Lib.hid (C1.row hB.out (fun e => e.elim (fun e => hne'.2.1 e) (fun e => hne'.2.2.2.1 e.symm)))
  have E1 := Lib.hid (C1.row hE.out (fun e => e.elim (fun e => hne'.2.2.1 e) (fun e => hne'.2.2.2.2.1 e.symm)))
  have C2 := Lib.hid (hC.trans (C1.mono (fun k _ e => e.elim (fun e => .inl e) (fun e => .inr (by rw [e]; exact hz0.out.1)))))
  have cE := World.cell?_of_row (l := [.nilIface]) E1.out 0 _ rfl
  have fE := frozen_of_row _ E 0 _ _ E1.out
  obtain ⟨w2, e2, E2, C3, hs3⟩ := stored 0 .nilIface E1
  have hfin : Hid (OptSt w0 w2 V B E M D l Z TV (pos + 1) (i + 1) (some v)) := Lib.hid
    ⟨cs.set i v, by rw [List.length_set]; exact hlen.out, fun j hj => by rw [List.getElem?_set_ne (by omega)]; exact hrest.out j (by omega), .inr (by rw [Nat.add_sub_cancel]; exact List.getElem?_set_self hil),
      fun u hu => by
        rcases List.mem_or_eq_of_mem_set hu with h | h
        · exact hone.out u h
        · rw [h]; exact hv1.out,
      C3.out.row V1.out hne'.2.2.2.2.1, C3.out.row B1.out hne'.2.2.2.2.2.1, E2.out, R1.out.chg C3.out (fun e => hne'.2.2.1 e.symm) (fun k hk e => hne'.2.2.2.2.2.2.2 (e ▸ hk)),
      C2.out.trans (C3.out.mono (fun k _ e => .inr (by rw [e]; exact hz0.out.2.2.1))), hz0.out⟩
  clear C1 V1 R1 E1 B1 hne' hC
  go_wp2
  rw [← e2]
  go_ret
  exact ⟨rfl, hfin⟩


set_option maxHeartbeats 1000000 in
theorem opt16 (w0 w : World) (V B E M : Nat) (D : Nat → Prop) (l : List UInt8) (Z : List Value) (TV : TypeId) (pos i : Nat) (lv : Option Value) (x : Int) (st : Hid (OptSt w0 w V B E M D l Z TV pos i lv)) (hz : Hid (Z[i]? = some (.int .u16 x))) (hpos : Hid (pos + 2 ≤ l.length)) :
    Calls Tryz.prog 51 #[.iface 163 (.pointer (some ⟨V, i, none⟩)), .pointer (some ⟨B, 0, none⟩), .pointer (some ⟨E, 0, none⟩)] w fun e w' => e = .returned (.bool true) ∧
      Hid (OptSt w0 w' V B E M D l Z TV (pos + 2) (i + 1) (some (.int .u16 ((num false ((l.drop pos).take 2) : Nat) : Int)))) := by
  obtain ⟨cs, hlen, hrest, -, hone, hV, hB, hE, hR, hC, hz0⟩ := st.out
  have cB := World.cell?_of_row (l := [secV M]) hB 0 _ rfl
  have hne : V ≠ M ∧ B ≠ M ∧ E ≠ M ∧ V ≠ B ∧ V ≠ E ∧ B ≠ E ∧ ¬ D V ∧ ¬ D E := by
    obtain ⟨h1, h2, h3, h4, h5, h6, h7, h8⟩ := hz0
    exact ⟨by omega, by omega, by omega, h4, h5, h6, fun e => by have := h8 _ e; omega, fun e => by have := h8 _ e; omega⟩
  have hil : i < cs.length := by
    rw [hlen]
    exact (List.getElem?_eq_some_iff.1 hz.out).1
  have CALL := Lib.hid (readNum16 V M i cs x (secV M) D l pos TV w (Lib.hid hR) hpos hne.1 (Lib.hid hne.2.2.2.2.2.2.1) (Lib.hid hV) (Lib.hid (by rw [hrest i (Nat.le_refl _)]; exact hz.out)))
  obtain ⟨v, hv⟩ : ∃ v, Value.int .u16 ((num false ((l.drop pos).take 2) : Nat) : Int) = v := ⟨_, rfl⟩
  have hv1 : Hid (v.oneCell' = true) := Lib.hid (by rw [← hv]; rfl)
  rw [hv] at CALL ⊢
  replace hlen := Lib.hid hlen
  replace hrest := Lib.hid hrest
  replace hone := Lib.hid hone
  replace hne := Lib.hid hne
  replace hB := Lib.hid hB
  replace hE := Lib.hid hE
  replace hz0 := Lib.hid hz0
  clear st hz hv hR hV
  go_enter Tryz.func51, Tryz.ntmps51
  go_wp2_with fail
  refine CALL.out.mono ?_
  rintro e w1 ⟨rfl, R1, V1, C1⟩
  have hne' := hne.out
  have B1 := Lib.hid (C1.row hB.out (fun e => e.elim (fun e => hne'.2.1 e) (fun e => hne'.2.2.2.1 e.symm)))
  have E1 := Lib.hid (C1.row hE.out (fun e => e.elim (fun e => hne'.2.2.1 e) (fun e => hne'.2.2.2.2.1 e.symm)))
  have C2 := Lib.hid (hC.trans (C1.mono (fun k _ e => e.elim (fun e => .inl e) (fun e => .inr (by rw [e]; exact hz0.out.1)))))
  have cE := World.cell?_of_row (l := [.nilIface]) E1.out 0 _ rfl
  have fE := frozen_of_row _ E 0 _ _ E1.out
  obtain ⟨w2, e2, E2, C3, hs3⟩ := stored 0 .nilIface E1
  have hfin : Hid (OptSt w0 w2 V B E M D l Z TV (pos + 2) (i + 1) (some v)) := Lib.hid
    ⟨cs.set i v, by rw [List.length_set]; exact hlen.out, fun j hj => by rw [List.getElem?_set_ne (by omega)]; exact hrest.out j (by omega), .inr (by rw [Nat.add_sub_cancel]; exact List.getElem?_set_self hil),
      fun u hu => by
        rcases List.mem_or_eq_of_mem_set hu with h | h
        · exact hone.out u h
        · rw [h]; exact hv1.out,
      C3.out.row V1.out hne'.2.2.2.2.1, C3.out.row B1.out hne'.2.2.2.2.2.1, E2.out, R1.out.chg C3.out (fun e => hne'.2.2.1 e.symm) (fun k hk e => hne'.2.2.2.2.2.2.2 (e ▸ hk)),
      C2.out.trans (C3.out.mono (fun k _ e => .inr (by rw [e]; exact hz0.out.2.2.1))), hz0.out⟩
  clear C1 V1 R1 E1 B1 hne' hC
  go_wp2
  rw [← e2]
  go_ret
  exact ⟨rfl, hfin⟩


set_option maxHeartbeats 1000000 in
theorem opt32 (w0 w : World) (V B E M : Nat) (D : Nat → Prop) (l : List UInt8) (Z : List Value) (TV : TypeId) (pos i : Nat) (lv : Option Value) (x : Int) (st : Hid (OptSt w0 w V B E M D l Z TV pos i lv)) (hz : Hid (Z[i]? = some (.int .u32 x))) (hpos : Hid (pos + 4 ≤ l.length)) :
    Calls Tryz.prog 51 #[.iface 154 (.pointer (some ⟨V, i, none⟩)), .pointer (some ⟨B, 0, none⟩), .pointer (some ⟨E, 0, none⟩)] w fun e w' => e = .returned (.bool true) ∧
      Hid (OptSt w0 w' V B E M D l Z TV (pos + 4) (i + 1) (some (.int .u32 ((num false ((l.drop pos).take 4) : Nat) : Int)))) := by
  obtain ⟨cs, hlen, hrest, -, hone, hV, hB, hE, hR, hC, hz0⟩ := st.out
  have cB := World.cell?_of_row (l := [secV M]) hB 0 _ rfl
  have hne : V ≠ M ∧ B ≠ M ∧ E ≠ M ∧ V ≠ B ∧ V ≠ E ∧ B ≠ E ∧ ¬ D V ∧ ¬ D E := by
    obtain ⟨h1, h2, h3, h4, h5, h6, h7, h8⟩ := hz0
    exact ⟨by omega, by omega, by omega, h4, h5, h6, fun e => by have := h8 _ e; omega, fun e => by have := h8 _ e; omega⟩
  have hil : i < cs.length := by
    rw [hlen]
    exact (List.getElem?_eq_some_iff.1 hz.out).1
  have CALL := Lib.hid (readNum32 V M i cs x (secV M) D l pos TV w (Lib.hid hR) hpos hne.1 (Lib.hid hne.2.2.2.2.2.2.1) (Lib.hid hV) (Lib.hid (by rw [hrest i (Nat.le_refl _)]; exact hz.out)))
  obtain ⟨v, hv⟩ : ∃ v, Value.int .u32 ((num false ((l.drop pos).take 4) : Nat) : Int) = v := ⟨_, rfl⟩
  have hv1 : Hid (v.oneCell' = true) := Lib.hid (by rw [← hv]; rfl)
  rw [hv] at CALL ⊢
  replace hlen := Lib.hid hlen
  replace hrest := Lib.hid hrest
  replace hone := Lib.hid hone
  replace hne := Lib.hid hne
  replace hB := Lib.hid hB
  replace hE := Lib.hid hE
  replace hz0 := Lib.hid hz0
  clear st hz hv hR hV
  go_enter Tryz.func51, Tryz.ntmps51
  go_wp2_with fail
  refine CALL.out.mono ?_
  rintro e w1 ⟨rfl, R1, V1, C1⟩
  have hne' := hne.out
  have B1 := Lib.hid (C1.row hB.out (fun e => e.elim (fun e => hne'.2.1 e) (fun e => hne'.2.2.2.1 e.symm)))
  have E1 := Lib.hid (C1.row hE.out (fun e => e.elim (fun e => hne'.2.2.1 e) (fun e => hne'.2.2.2.2.1 e.symm)))
  have C2 := Lib.hid (hC.trans (C1.mono (fun k _ e => e.elim (fun e => .inl e) (fun e => .inr (by rw [e]; exact hz0.out.1)))))
  have cE := World.cell?_of_row (l := [.nilIface]) E1.out 0 _ rfl
  have fE := frozen_of_row _ E 0 _ _ E1.out
  obtain ⟨w2, e2, E2, C3, hs3⟩ := stored 0 .nilIface E1
  have hfin : Hid (OptSt w0 w2 V B E M D l Z TV (pos + 4) (i + 1) (some v)) := Lib.hid
    ⟨cs.set i v, by rw [List.length_set]; exact hlen.out, fun j hj => by rw [List.getElem?_set_ne (by omega)]; exact hrest.out j (by omega), .inr (by rw [Nat.add_sub_cancel]; exact List.getElem?_set_self hil),
      fun u hu => by
        rcases List.mem_or_eq_of_mem_set hu with h | h
        · exact hone.out u h
        · rw [h]; exact hv1.out,
      C3.out.row V1.out hne'.2.2.2.2.1, C3.out.row B1.out hne'.2.2.2.2.2.1, E2.out, R1.out.chg C3.out (fun e => hne'.2.2.1 e.symm) (fun k hk e => hne'.2.2.2.2.2.2.2 (e ▸ hk)),
      C2.out.trans (C3.out.mono (fun k _ e => .inr (by rw [e]; exact hz0.out.2.2.1))), hz0.out⟩
  clear C1 V1 R1 E1 B1 hne' hC
  go_wp2
  rw [← e2]
  go_ret
  exact ⟨rfl, hfin⟩


set_option maxHeartbeats 1000000 in
theorem opt64 (w0 w : World) (V B E M : Nat) (D : Nat → Prop) (l : List UInt8) (Z : List Value) (TV : TypeId) (pos i : Nat) (lv : Option Value) (x : Int) (st : Hid (OptSt w0 w V B E M D l Z TV pos i lv)) (hz : Hid (Z[i]? = some (.int .u64 x))) (hpos : Hid (pos + 8 ≤ l.length)) :
    Calls Tryz.prog 51 #[.iface 176 (.pointer (some ⟨V, i, none⟩)), .pointer (some ⟨B, 0, none⟩), .pointer (some ⟨E, 0, none⟩)] w fun e w' => e = .returned (.bool true) ∧
      Hid (OptSt w0 w' V B E M D l Z TV (pos + 8) (i + 1) (some (.int .u64 ((num false ((l.drop pos).take 8) : Nat) : Int)))) := by
  obtain ⟨cs, hlen, hrest, -, hone, hV, hB, hE, hR, hC, hz0⟩ := st.out
  have cB := World.cell?_of_row (l := [secV M]) hB 0 _ rfl
  have hne : V ≠ M ∧ B ≠ M ∧ E ≠ M ∧ V ≠ B ∧ V ≠ E ∧ B ≠ E ∧ ¬ D V ∧ ¬ D E := by
    obtain ⟨h1, h2, h3, h4, h5, h6, h7, h8⟩ := hz0
    exact ⟨by omega, by omega, by omega, h4, h5, h6, fun e => by have := h8 _ e; omega, fun e => by have := h8 _ e; omega⟩
  have hil : i < cs.length := by
    rw [hlen]
    exact (List.getElem?_eq_some_iff.1 hz.out).1
  have CALL := Lib.hid (readNum64 V M i cs x (secV M) D l pos TV w (Lib.hid hR) hpos hne.1 (Lib.hid hne.2.2.2.2.2.2.1) (Lib.hid hV) (Lib.hid (by rw [hrest i (Nat.le_refl _)]; exact hz.out)))
  obtain ⟨v, hv⟩ : ∃ v, Value.int .u64 ((num false ((l.drop pos).take 8) : Nat) : Int) = v := ⟨_, rfl⟩
  have hv1 : Hid (v.oneCell' = true) := Lib.hid (by rw [← hv]; rfl)
  rw [hv] at CALL ⊢
  replace hlen := Lib.hid hlen
  replace hrest := Lib.hid hrest
  replace hone := Lib.hid hone
  replace hne := Lib.hid hne
  replace hB := Lib.hid hB
  replace hE := Lib.hid hE
  replace hz0 := Lib.hid hz0
  clear st hz hv hR hV
  go_enter Tryz.func51, Tryz.ntmps51
  go_wp2_with fail
  refine CALL.out.mono ?_
  rintro e w1 ⟨rfl, R1, V1, C1⟩
  have hne' := hne.out
  have B1 := Lib.hid (C1.row hB.out (fun e => e.elim (fun e => hne'.2.1 e) (fun e => hne'.2.2.2.1 e.symm)))
  have E1 := Lib.hid (C1.row hE.out (fun e => e.elim (fun e => hne'.2.2.1 e) (fun e => hne'.2.2.2.2.1 e.symm)))
  have C2 := Lib.hid (hC.trans (C1.mono (fun k _ e => e.elim (fun e => .inl e) (fun e => .inr (by rw [e]; exact hz0.out.1)))))
  have cE := World.cell?_of_row (l := [.nilIface]) E1.out 0 _ rfl
  have fE := frozen_of_row _ E 0 _ _ E1.out
  obtain ⟨w2, e2, E2, C3, hs3⟩ := stored 0 .nilIface E1
  have hfin : Hid (OptSt w0 w2 V B E M D l Z TV (pos + 8) (i + 1) (some v)) := Lib.hid
    ⟨cs.set i v, by rw [List.length_set]; exact hlen.out, fun j hj => by rw [List.getElem?_set_ne (by omega)]; exact hrest.out j (by omega), .inr (by rw [Nat.add_sub_cancel]; exact List.getElem?_set_self hil),
      fun u hu => by
        rcases List.mem_or_eq_of_mem_set hu with h | h
        · exact hone.out u h
        · rw [h]; exact hv1.out,
      C3.out.row V1.out hne'.2.2.2.2.1, C3.out.row B1.out hne'.2.2.2.2.2.1, E2.out, R1.out.chg C3.out (fun e => hne'.2.2.1 e.symm) (fun k hk e => hne'.2.2.2.2.2.2.2 (e ▸ hk)),
      C2.out.trans (C3.out.mono (fun k _ e => .inr (by rw [e]; exact hz0.out.2.2.1))), hz0.out⟩
  clear C1 V1 R1 E1 B1 hne' hC
  go_wp2
  rw [← e2]
  go_ret
  exact ⟨rfl, hfin⟩


set_option maxHeartbeats 400000 in
theorem optNone (M : Nat) (w : World) : Calls Tryz.prog 39 #[secV M, .int .u16 0] w fun e w' => e = .returned (.tuple #[.nilIface, .nilIface]) ∧ Below w.heap.size w w' := by
  go_enter Tryz.func39, Tryz.ntmps39
  go_wp2
  go_ret2
  exact ⟨rfl, (Below.refl _ _).alloc (Nat.le_refl _) _⟩
end Go.Proofs.YtbpebngjpecncaaGreatDoor
