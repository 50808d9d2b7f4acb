/-
  spec.PeOf where there are no symbols.
-/
import Derived.Test.YtbpebngjpecncaaGreatDoorPeOfT
import Derived.Test.YtbpebngjpecncaaGreatDoorPeStub
import Derived.Deep.CutRange
namespace Go.Proofs.YtbpebngjpecncaaGreatDoor
set_option linter.unusedVariables false
set_option linter.unusedSimpArgs false
set_option maxRecDepth 100000
open Go Go.RowKit
attribute [local go_sem ↓] Go.wp_at_zero Go.wp_at_succ

theorem und {a b : World} {n : Nat} (h : Below (a.drewN n).heap.size (a.drewN n) b) : Below a.heap.size a b := ⟨h.os, h.tape, h.output, h.size, h.block⟩
theorem rc_drewN {w : World} {A : Option Addr} {k n : Nat} {vs : List Value} (h : RC w A k n vs) (m : Nat) : RC (w.drewN m) A k n vs := ⟨h.1, fun h0 => by
  obtain ⟨a, e, hc⟩ := h.2 h0
  exact ⟨a, e, fun j u hu => by simpa using hc j u hu⟩⟩
theorem cells3 {w w' : World} {V i j k : Nat} {x y z : Value} (h : w.cell? ⟨V, i, none⟩ = some x ∧ w.cell? ⟨V, j, none⟩ = some y ∧ w.cell? ⟨V, k, none⟩ = some z) (hV : V < w.heap.size) (hb : Below w.heap.size w w') :
    w'.cell? ⟨V, i, none⟩ = some x ∧ w'.cell? ⟨V, j, none⟩ = some y ∧ w'.cell? ⟨V, k, none⟩ = some z :=
  ⟨(hb.cell (p := ⟨V, i, none⟩) hV).trans h.1, (hb.cell (p := ⟨V, j, none⟩) hV).trans h.2.1, (hb.cell (p := ⟨V, k, none⟩) hV).trans h.2.2⟩
theorem cnt_four : ∀ n : Nat, cntW (List.replicate n 4) = n
  | 0 => rfl
  | n + 1 => by
    rw [List.replicate_succ]
    show 1 + cntW (List.replicate n 4) = _
    rw [cnt_four n]
    omega
theorem widthsOk_of {ws : List Int} (h : ∀ x ∈ ws, 0 < x ∧ x ≤ 8) : widthsOk ws := fun _ x hx => .inl (h x (List.mem_of_getElem? hx))
theorem cnt32 : cntW optW32 = 30 := by decide
theorem cnt64 : cntW optW64 = 29 := by decide
theorem step_append_run {P : Program} {w : World} {ops : Array Oper} {o : Oper} {a : Act} {K : Act → World → Prop} {Q : Exit → Act → World → Prop} {E : Prop} (hgd : o.guard = none) (s x : Operand) (t tn : TypeId)
    (ho : o.op = .call { callee := .builtin .append, args := #[s, x], argTypes := #[t, tn] }) (vs vx : Value) (hs : a.eval s = vs) (hx : a.eval x = vx)
    (v' : Value) (w' : World) (hr : (Builtin.append_ #[t, tn] o.type #[vs, vx]).run P w = .ok v' w') (h : K (a.put o.dst v') w') : if Region.wanted o (yielded ops a.tmps) = true then Oper.wp P o a w K Q else E := by
  have hw : Region.wanted o (yielded ops a.tmps) = true := by simp [Region.wanted, hgd]
  rw [if_pos hw]
  exact Lib.wp_append_run w s x t tn ho vs vx hs hx v' w' hr h
theorem preB_len {m : MadeL} (h : m.stub = 0 ∨ (64 ≤ m.stub ∧ m.stub ≤ 127)) : (preB m).length = if m.stub = 0 then 0 else m.stub + 4 := by
  unfold preB stubB
  split
  · rfl
  · simp [le_len]
    omega
theorem OptV.len {K : Nat} {nums dirs : List Nat} (h : OptV K nums dirs) : (optB K nums dirs).length ≤ 240 := by
  rcases h.ok with e | ⟨n, hn, e, -⟩ | ⟨n, hn, e, -⟩
  · rw [e]; decide
  · omega
  · omega
/-- The cells of a section that is to be made. -/
theorem bit_cells {w : World} {s : MadeS} {m : MadeL} (hV : MadeV w s m) {BB : Option Addr} (hB : s.B = BB) (k : Nat) (hk : k < m.bits.length) :
    ∃ g o b A d c R r c' vs, BB = some ⟨g, o, none⟩ ∧ m.bits[k]? = some b ∧ Hid (RBitAt w b A d c R r c' vs) ∧ w.cell? ⟨g, o + k * 6, none⟩ = some (.string ⟨b.name.toArray⟩) ∧ w.cell? ⟨g, o + k * 6 + 1, none⟩ = some (.int .u32 b.size) ∧
      w.cell? ⟨g, o + k * 6 + 2, none⟩ = some (.int .u32 b.addr) ∧ w.cell? ⟨g, o + k * 6 + 3, none⟩ = some (.int .u32 b.flags) ∧ w.cell? ⟨g, o + k * 6 + 4, none⟩ = some (.slice A d c) ∧ w.cell? ⟨g, o + k * 6 + 5, none⟩ = some (.slice R r c') := by
  obtain ⟨cs, b, hb, hl, ⟨A, d, c, R, r, c', vs, rfl, hAt⟩, hc⟩ := hV.brec.get hk
  have hat : ∀ j u, _ → ∃ g o, s.B = some ⟨g, o, none⟩ ∧ w.cell? ⟨g, o + (k * 6 + j), none⟩ = some u := fun j u h => hV.bits.at (hc j u h)
  obtain ⟨g, o, e0, q0⟩ := hat 0 _ rfl
  have hrest : ∀ j u, _ → w.cell? ⟨g, o + k * 6 + j, none⟩ = some u := fun j u h => by
    obtain ⟨g', o', e', q'⟩ := hat j u h
    rw [e0] at e'
    simp only [Option.some.injEq, Addr.mk.injEq, and_true] at e'
    obtain ⟨rfl, rfl⟩ := e'
    exact (Nat.add_assoc o (k * 6) j ▸ q')
  exact ⟨g, o, b, A, d, c, R, r, c', vs, by rw [← hB, e0], hb, Lib.hid hAt, hrest 0 _ rfl, hrest 1 _ rfl, hrest 2 _ rfl, hrest 3 _ rfl, hrest 4 _ rfl, hrest 5 _ rfl⟩
/-- The numbers of a section's header. -/
def numsL (b : BitL) (x2 x3 x4 : Nat) : List Nat := [b.size, b.addr, x2, x3, x4, 0, b.relocs.length, 0, b.flags]
def numsC (b : BitL) (x2 x3 x4 : Nat) : List Value := (numsL b x2 x3 x4).map uv
def n2 (b : BitL) : Nat := if b.data = [] then b.size % 64 else b.data.length
def n3 (at_ : Nat) (rest : List UInt8) (b : BitL) : Nat := if b.data = [] then 0 else at_ + rest.length
/-- The cells of a section's relocations. -/
theorem rel_cells {w : World} {b : BitL} {A : Option Addr} {d c : Nat} {R : Option Addr} {r c' : Nat} {vs : List Value} (h : RBitAt w b A d c R r c' vs) (j : Nat) (hj : j < r) :
    ∃ g o A3 x, R = some ⟨g, o, none⟩ ∧ b.relocs[j]? = some x ∧ x.1 ≤ 18446744073709551615 ∧ x.2.1 ≤ 18446744073709551615 ∧ x.2.2 ≤ 18446744073709551615 ∧ Hid (RC w A3 1 3 ([x.1, x.2.1, x.2.2].map uv)) ∧ w.cell? ⟨g, o + j, none⟩ = some (.slice A3 3 3) := by
  obtain ⟨cs, x, hx, -, ⟨A3, rfl, hT, h1, h2, h3⟩, hc⟩ := h.recs.get hj
  obtain ⟨g, o, e, q⟩ := h.rels.at (hc 0 _ rfl)
  exact ⟨g, o, A3, x, e, hx, h1, h2, h3, Lib.hid hT.rc, by simpa using q⟩
theorem rowB_rel (x : Nat × Nat × Nat) : rowB [4, 4, 2] [x.1, x.2.1, x.2.2] = relB x := by
  simp [rowB, relB, le]
theorem relsB_take {l : List (Nat × Nat × Nat)} {j : Nat} {x : Nat × Nat × Nat} (h : l[j]? = some x) : relsB (l.take (j + 1)) = relsB (l.take j) ++ relB x := by
  rw [List.take_add_one, h]
  simp [relsB]
/-- The widths of a section's header. -/
def secW : List Int := [-8, 4, 4, 4, 4, 4, 4, 2, 2, 4]
theorem widS : Hid (widthsOk secW) := Lib.hid (fun k x h => by
  match k with
  | 0 => exact .inr ⟨rfl, by simpa [secW] using h.symm⟩
  | k + 1 =>
    have h2 : ([4, 4, 4, 4, 4, 4, 2, 2, 4] : List Int)[k]? = some x := h
    have := List.mem_of_getElem? h2
    simp only [List.mem_cons, List.not_mem_nil, or_false] at this
    left
    omega)
theorem cntS : Hid (cntW secW ≤ 9) := Lib.hid (by decide)
theorem rc_of_row {w : World} {V n : Nat} {vs : List Value} {T : TypeId} (hn : vs.length = n) (h : w.heap[V]? = some (.cells vs.toArray T (0, 0))) : RC w (some ⟨V, 0, none⟩) 1 n vs :=
  ⟨by omega, fun _ => ⟨_, rfl, fun j u hu => by
    rw [add_off, Nat.zero_add, cell_of_row w V j _ _ _ h, List.getElem?_toArray]
    exact hu⟩⟩
theorem nums_le {b : BitL} {at_ x4 : Nat} {rest : List UInt8} (u1 : b.size < 4294967296) (u2 : b.addr < 4294967296) (u3 : b.flags < 4294967296) (hb : BitOk b) (h4 : x4 ≤ 100000) (h3 : at_ + rest.length ≤ 100000) : ∀ v ∈ numsL b (n2 b) (n3 at_ rest b) x4, v ≤ 18446744073709551615 := by
  intro v hv
  have e2 : n2 b ≤ 100 := by have := hb.d; unfold n2; split <;> omega
  have e3 : n3 at_ rest b ≤ 100000 := by unfold n3; split <;> omega
  have := hb.r
  simp only [numsL, List.mem_cons, List.not_mem_nil, or_false] at hv
  omega
theorem head_eq {at_ : Nat} {s : SecSt} {b : BitL} (h : (secNm s.texts b).length ≤ 8) :
    (⟨(secNm s.texts b).toArray⟩ : ByteArray).data.toList ++ (rowB secW (numsL b (n2 b) (n3 at_ s.rest b) (at_ + (s.rest ++ b.data).length))).drop (secNm s.texts b).length = headB at_ s b := by
  have e : rowB secW (numsL b (n2 b) (n3 at_ s.rest b) (at_ + (s.rest ++ b.data).length)) = List.replicate 8 0 ++ (le 4 b.size ++ (le 4 b.addr ++ (le 4 (n2 b) ++ (le 4 (n3 at_ s.rest b) ++ (le 4 (at_ + s.rest.length + b.data.length) ++ (le 4 0 ++ (le 2 b.relocs.length ++ (le 2 0 ++ le 4 b.flags)))))))) := by
    rw [List.length_append, ← Nat.add_assoc]
    simp [secW, numsL, rowB, le]
  rw [e, List.drop_append_of_le_length (by simpa using h), List.drop_replicate]
  unfold headB name8B
  rw [List.append_assoc]
  rfl
theorem Tryz.infoPart : (Tryz.prog.info? 63).map (fun i => (i.zero, i.size, i.bytes)) = some (some (.agg #[.string ⟨#[]⟩, .slice none 0 0, .slice none 0 0, .slice none 0 0]), 4, 88) := by kernel_rfl
theorem wid3 : Hid (widthsOk [4, 4, 2]) := Lib.hid (widthsOk_of (by decide))
theorem widH : Hid (widthsOk [2, 2, 4, 4, 4, 2, 2]) := Lib.hid (widthsOk_of (by decide))
theorem cntH : Hid (cntW [2, 2, 4, 4, 4, 2, 2] ≤ 7) := Lib.hid (by decide)
theorem wid32 : Hid (widthsOk optW32) := Lib.hid (widthsOk_of (by decide))
theorem wid64 : Hid (widthsOk optW64) := Lib.hid (widthsOk_of (by decide))

/-- What the making of a file without symbols answers; its value's cells are one each. -/
def PeOfQ (w : World) (m : MadeL) (e : Ending) (w' : World) : Prop :=
  ∃ (x0 x1 x2 x3 x5 x7 : Value) (VP : Option Addr) (cp : Nat) (VC : Option Addr) (cc : Nat) (A : Option Addr) (ca : Nat) (pcs : List Value),
    e = .returned (.tuple #[.agg #[x0, x1, x2, x3, .slice VP m.bits.length cp, x5, .slice VC (symE m).n cc, x7], .slice A (fileB m).length ca]) ∧ (fileB m).length ≤ ca ∧ Hid (RB w' A (fileB m)) ∧
    Hid (RC w' VP 4 m.bits.length pcs) ∧ Hid (Recs RPart w' 4 m.bits.length pcs m.bits) ∧ Below w.heap.size w w' ∧ ∀ v ∈ ([x0, x1, x2, x3, x5, x7] : List Value), v.oneCell' = true

set_option maxHeartbeats 16000000 in
theorem peOf1_any (s : MadeS) (m : MadeL) (w : World) (hV : Hid (MadeV w s m)) (hok : Hid (MadeOk m)) (hs : Hid (m.syms.length = 0)) :
    Calls Tryz.prog 5 #[.agg (s.cells m).toArray] w (PeOfQ w m) := by
  obtain ⟨mc, hmc⟩ : ∃ mc, s.cells m = mc := ⟨_, rfl⟩
  obtain ⟨K, hK⟩ : ∃ K, s.kind = K := ⟨_, rfl⟩
  obtain ⟨BB, hBB⟩ : ∃ BB, s.B = BB := ⟨_, rfl⟩
  have e0 : Value.agg (s.cells m).toArray = .agg #[.int .i64 m.stub, .int .u16 m.machine, .int .u32 m.time, .int .u16 m.flags, .int .i64 K, .slice s.N s.nums.length s.nc, .slice s.D s.dirs.length s.dc, .slice BB m.bits.length s.bc, .slice s.S 0 s.sc, .slice s.X 0 s.xc] := by
    rw [← hK, ← hs.out, ← hBB]; rfl
  rw [e0]
  clear e0
  have hK0 : K = 0 ∨ K = 32 ∨ K = 64 := by
    have h := hV.out.ov.kind
    rw [hK] at h
    rcases h with h | h | h
    · exact .inl h.1
    · exact .inr (.inl h.1)
    · exact .inr (.inr h.1)
  obtain ⟨w3, e3⟩ : ∃ w3, (((w.alloc (.cells #[.int .i64 m.stub, .int .u16 m.machine, .int .u32 m.time, .int .u16 m.flags, .int .i64 K, .slice s.N s.nums.length s.nc, .slice s.D s.dirs.length s.dc, .slice BB m.bits.length s.bc, .slice s.S 0 s.sc, .slice s.X 0 s.xc] 30)).alloc
    (.cells #[.slice none 0 0, .int .i64 0, .slice none 0 0, .slice none 0 0, .slice none 0 0, .slice none 0 0, .slice none 0 0, .slice none 0 0] 36)).alloc
    (.cells #[.slice none 0 0, .int .i64 K, .slice s.N s.nums.length s.nc, .slice none 0 0, .slice none 0 0, .slice none 0 0, .slice none 0 0, .slice none 0 0] 36)).alloc (.cells #[] 5) = w3 := ⟨_, rfl⟩
  have z3 : w3.heap.size = w.heap.size + 4 := by rw [← e3]; simp
  have b3 : Below w.heap.size w w3 := by rw [← e3]; exact ((((Below.refl _ w).alloc (Nat.le_refl _) _).alloc (by simp) _).alloc (by simp; omega) _).alloc (by simp; omega) _
  have g1 : Hid (w3.heap[w.heap.size]? = some (.cells mc.toArray 30 (0, 0))) := Lib.hid (by
    rw [← e3, heap_alloc_old _ _ (by simp; omega), heap_alloc_old _ _ (by simp; omega), heap_alloc_old _ _ (by simp), heap_alloc_new, ← hmc, ← hK, ← hBB]
    unfold MadeS.cells
    rw [hs.out])
  have g2 : Hid (w3.heap[w.heap.size + 1]? = some (.cells ([.slice none 0 0, .int .i64 0, .slice none 0 0, .slice none 0 0, .slice none 0 0, .slice none 0 0, .slice none 0 0, .slice none 0 0] : List Value).toArray 36 (0, 0))) := Lib.hid (by
    have : w.heap.size + 1 = (w.alloc (.cells #[.int .i64 m.stub, .int .u16 m.machine, .int .u32 m.time, .int .u16 m.flags, .int .i64 K, .slice s.N s.nums.length s.nc, .slice s.D s.dirs.length s.dc, .slice BB m.bits.length s.bc, .slice s.S 0 s.sc, .slice s.X 0 s.xc] 30)).heap.size := by simp
    rw [this, ← e3, heap_alloc_old _ _ (by simp), heap_alloc_old _ _ (by simp), heap_alloc_new])
  have g4 : Hid (w3.heap[w.heap.size + 1 + 1]? = some (.cells (([.slice none 0 0, .int .i64 K, .slice s.N s.nums.length s.nc, .slice none 0 0] : List Value) ++ ([.slice none 0 0, .slice none 0 0, .slice none 0 0, .slice none 0 0] : List Value)).toArray 36 (0, 0))) := Lib.hid (by
    have : w.heap.size + 1 + 1 = ((w.alloc (.cells #[.int .i64 m.stub, .int .u16 m.machine, .int .u32 m.time, .int .u16 m.flags, .int .i64 K, .slice s.N s.nums.length s.nc, .slice s.D s.dirs.length s.dc, .slice BB m.bits.length s.bc, .slice s.S 0 s.sc, .slice s.X 0 s.xc] 30)).alloc (.cells #[.slice none 0 0, .int .i64 0, .slice none 0 0, .slice none 0 0, .slice none 0 0, .slice none 0 0, .slice none 0 0, .slice none 0 0] 36)).heap.size := by simp
    rw [this, ← e3, heap_alloc_old _ _ (by simp), heap_alloc_new]
    rfl)
  have o5 : Hid (w3.ownsRow w.heap.size 5 1 (.slice (some ⟨w.heap.size + 1 + 1 + 1, 0, none⟩) 0 0) 0 (([] : List UInt8).map bv)) := Lib.hid (by
    have : w.heap.size + 1 + 1 + 1 = (((w.alloc (.cells #[.int .i64 m.stub, .int .u16 m.machine, .int .u32 m.time, .int .u16 m.flags, .int .i64 K, .slice s.N s.nums.length s.nc, .slice s.D s.dirs.length s.dc, .slice BB m.bits.length s.bc, .slice s.S 0 s.sc, .slice s.X 0 s.xc] 30)).alloc
    (.cells #[.slice none 0 0, .int .i64 0, .slice none 0 0, .slice none 0 0, .slice none 0 0, .slice none 0 0, .slice none 0 0, .slice none 0 0] 36)).alloc
    (.cells #[.slice none 0 0, .int .i64 K, .slice s.N s.nums.length s.nc, .slice none 0 0, .slice none 0 0, .slice none 0 0, .slice none 0 0, .slice none 0 0] 36)).heap.size := by simp
    rw [this, ← e3]
    exact owns_new _ (by simp; omega))
  replace b3 := Lib.hid b3
  replace e3 := Lib.hid e3
  go_enter Tryz.func5, Tryz.ntmps5
  go_upto_if 33 with fail
  rw [e3.out]
  clear e3
  go_cut [5] from 25 to 58 (fun c5 wx => ∃ X3 xn3 xc3, Hid (PS w wx w.heap.size (w.heap.size + 1) (w.heap.size + 1 + 1) mc [.slice none 0 0, .int .i64 K, .slice s.N s.nums.length s.nc, .slice X3 xn3 xc3] m.opt c5 [] [] [] (.slice none 0 0) (.slice none 0 0) (.slice none 0 0) 0 0 0 (.slice none 0 0) (.slice none 0 0) (.slice none 0 0) [] [] []))
  case first =>
    --[A
    rcases hK0 with rfl | rfl | rfl
    · go_wp2_with fail
      go_meet
      case rel =>
        have hop : m.opt = [] := by rw [hV.out.opt, hK]; rfl
        rw [hop]
        exact ⟨none, 0, 0, Lib.hid (PS.start o5.out g1.out ⟨_, rfl, g2.out⟩ g4.out b3.out (Nat.le_refl _) (by omega) (by omega) rfl)⟩
    · have hlen : Hid (s.nums.length = 30) := Lib.hid (by
        have h := hV.out.ov.kind
        rw [hK] at h
        rcases h with h | h | h <;> first | exact h.2.1 | exact absurd h.1 (by decide))
      have hn100 : s.nums.length ≤ 100 := by have := hlen.out; omega
      have hop : m.opt = rowB optW32 s.nums ++ rowB (List.replicate s.dirs.length 4) s.dirs := by rw [hV.out.opt, hK]; rfl
      have hd32 : s.dirs.length ≤ 32 := by
        obtain ⟨k, hk, hd, -⟩ := hV.out.ov.last (by rw [hK]; decide)
        omega
      have c4 := World.cell?_of_row g1.out 4 (.int .i64 (32 : Int)) (by rw [← hmc]; unfold MadeS.cells; rw [hK]; rfl)
      have c5 := World.cell?_of_row g1.out 5 (.slice s.N s.nums.length s.nc) (by rw [← hmc]; rfl)
      have c6 := World.cell?_of_row g1.out 6 (.slice s.D s.dirs.length s.dc) (by rw [← hmc]; rfl)
      have hN3 := Lib.hid (rc_later hV.out.nums.rc b3.out)
      have hD3 := Lib.hid (rc_later hV.out.dirs.rc b3.out)
      have hnb := Lib.hid hV.out.ov.bnd
      have hdb := Lib.hid hV.out.ov.bdd
      have hnc := hV.out.nc
      have hdc := hV.out.dc
      have hl1 : Hid ((rowB optW32 s.nums).length = 96) := Lib.hid (by rw [rowB_len]; decide)
      have hl2 : Hid ((rowB (List.replicate s.dirs.length 4) s.dirs).length = 4 * s.dirs.length) := Lib.hid (by rw [rowB_len, width_four])
      have hfo : Hid (widthsOk (List.replicate s.dirs.length 4)) := Lib.hid (fun k x h => .inl (by
        have := List.mem_of_getElem? h
        rw [List.mem_replicate] at this
        obtain ⟨-, rfl⟩ := this
        omega))
      have hcf : Hid (cntW (List.replicate s.dirs.length 4) ≤ s.dirs.length) := Lib.hid (Nat.le_of_eq (cnt_four _))
      have hcn : Hid (cntW optW32 ≤ s.nums.length) := Lib.hid (by rw [hlen.out, cnt32]; exact Nat.le_refl _)
      have hV1 : w.heap.size < w3.heap.size := by omega
      go_upto_region 4 with fail
      go_region_held3 (fun w' => w'.cell? ⟨w.heap.size, 4, none⟩ = some (.int .i64 (32 : Int)) ∧ w'.cell? ⟨w.heap.size, 5, none⟩ = some (.slice s.N s.nums.length s.nc) ∧ w'.cell? ⟨w.heap.size, 6, none⟩ = some (.slice s.D s.dirs.length s.dc))
        (first | exact ⟨c4, c5, c6⟩ | exact K1.out | exact K2.out | exact K3.out | exact K4.out | go_keep | exact K5.out)
        (first
          | (go_at_call 11; refine (peOptional_false _).mono ?_; rintro e w4 ⟨⟨vw, cw, rfl, hcw, RW⟩, b4'⟩; have b4 := Lib.hid (und b4'); have K1 := Lib.hid (cells3 ⟨c4, c5, c6⟩ hV1 b4.out); have hN4 := Lib.hid (rc_later hN3.out b4.out); clear b4')
          | (refine step_append_bytes Tryz.underlying34 Tryz.infoByte (by rfl) (.tmp 40) (.tmp 47) (by rfl) w4.heap.size _ _ (rowB optW32 s.nums) (by rfl) ownN.out AD _ cD (rowB (List.replicate s.dirs.length 4) s.dirs) (by rfl) rfl RD.out (by rw [hl1.out, hl2.out]; omega) (Nat.le_trans b5.out.size (Nat.le_trans b6.out.size b7.out.size)) ?_; intro v8 w8 own8 g8 at8; have b38 := Lib.hid (b37.out.grown g8 b37.out.size (fun q hq => Nat.le_trans b4.out.size (ownN.out.lt q hq).1)); have K5 := Lib.hid (cells3 ⟨c4, c5, c6⟩ hV1 b38.out); have own9 : Hid (w8.ownsRow w.heap.size 5 1 v8 m.opt.length (m.opt.map bv)) := Lib.hid (by rw [hop, List.length_append]; exact owns_mono own8 (Nat.le_trans b3.out.size b4.out.size)); clear own8 g8 at8)
          | (go_at_call 12; refine (specRow_any AF s.D s.dirs.length cF s.dirs.length s.dc (List.replicate s.dirs.length 4) s.dirs _ hfo hcf (by omega) (by omega) hdc hdb RF hD6).mono ?_; rintro e w7 ⟨⟨vd, rfl, own7⟩, b7'⟩; obtain ⟨-, AD, cD, rfl, RD, hcD, -, -, -⟩ := RB.of_owns own7; replace RD := Lib.hid RD; have ownN := Lib.hid (owns_later (owns_later own5 b6.out) b7'); have b37 := Lib.hid (((b4.out.trans (b5.out.mono b4.out.size)).trans (b6.out.mono (Nat.le_trans b4.out.size b5.out.size))).trans (b7'.mono (Nat.le_trans b4.out.size (Nat.le_trans b5.out.size b6.out.size)))); have b7 := Lib.hid b7'; have K4 := Lib.hid (cells3 K3.out (Nat.lt_of_lt_of_le hV1 (Nat.le_trans b4.out.size (Nat.le_trans b5.out.size b6.out.size))) b7.out); clear b7')
          | (go_at_call 12; refine (specRow_any vw s.N 30 cw s.nums.length s.nc optW32 s.nums _ wid32 hcn (by omega) (by omega) hnc hnb RW hN4).mono ?_; rintro e w5 ⟨⟨vn, rfl, own5⟩, b5'⟩; have b5 := Lib.hid b5'; have K2 := Lib.hid (cells3 K1.out (Nat.lt_of_lt_of_le hV1 b4.out.size) b5.out); clear b5')
          | (go_at_call 13; refine (fours_any s.dirs.length (by omega) _).mono ?_; rintro e w6 ⟨⟨vf, rfl, own6⟩, b6'⟩; have b6 := Lib.hid b6'; obtain ⟨AF, cF, rfl, RF, hcF, -⟩ := RC.of_owns own6; have K3 := Lib.hid (cells3 K2.out (Nat.lt_of_lt_of_le hV1 (Nat.le_trans b4.out.size b5.out.size)) b6.out); have hD6 := Lib.hid (rc_later (rc_later (rc_later hD3.out b4.out) b5.out) b6.out); replace RF := Lib.hid RF; clear own6 b6'))
      have c6' := K5.out.2.2
      have hD8 := Lib.hid (rc_later hD3.out b38.out)
      have g18 := row_later b38.out g1
      have g28 := row_later b38.out g2
      have g48 := row_later b38.out g4
      have z8 := b38.out.size
      have b08 := Lib.hid (b3.out.trans (b38.out.mono b3.out.size))
      clear K1 K2 K3 K4 K5 c4 c5 c6 hN3 hD3 b4 b5 b6 b7 b37 b38 RW RF RD ownN own5 hN4 hD6 hcn hcf hfo hl1 hl2 hnb hdb
      have hq : IntKind.i64.wrap (32 - (s.dirs.length : Int)) = ((32 - s.dirs.length : Nat) : Int) := by
        rw [IntWalk.i64_in _ (by omega)]
        omega
      obtain ⟨i0, hi, hz0, hz1, hz2⟩ := info_parts Tryz.info64
      have hV8 : w.heap.size < w8.heap.size := by omega
      go_wp2_with fail
      go_region_held3 (fun w' => w'.cell? ⟨w.heap.size, 6, none⟩ = some (.slice s.D s.dirs.length s.dc))
        (first | exact c6' | exact K6.out | exact K7.out | exact K8.out | go_keep)
        (first
          | (refine step_append_any (by rfl) (.tmp 49) (.tmp 51) 25 (by rfl) w8.heap.size 54 i0 (.int .u64 0) 1 8 Tryz.underlying25 hi hz0 hz1 hz2 rfl (by omega) _ 0 [] (by rfl) (owns_new 54 (Nat.le_refl _)).drew s.D s.dirs.length s.dc (s.dirs.map uv) (by rfl) (rc_later hD8.out ((Below.refl _ _).alloc (Nat.le_refl _) _).drew) (uv_one _) (by simp only [maxLen]; omega) (by omega) (by simp) ?_; intro v9 w9 own9' g9 at9; have b89 := (((Below.refl w8.heap.size w8).alloc (Nat.le_refl _) (.cells #[] 54)).drew).grown g9 (by simp) (fun q hq => Nat.le_of_eq (Option.some.inj hq)); have K6 : Hid (w9.cell? ⟨w.heap.size, 6, none⟩ = some (.slice s.D s.dirs.length s.dc)) := Lib.hid ((b89.cell (p := ⟨w.heap.size, 6, none⟩) hV8).trans c6'); replace b89 := Lib.hid b89; replace own9' := Lib.hid own9'; clear g9 at9)
          | (obtain ⟨A10, n10, c10, w10, hr10, g10⟩ := run_append_noughts (P := Tryz.prog) w8.heap.size 25 3 25 54 Tryz.underlying25 Tryz.underlying3 Tryz.info64 v9 _ _ own9'.out (32 - s.dirs.length) (by omega) (by omega); refine step_append_run (by rfl) (.tmp 52) (.tmp 56) 25 3 (by rfl) v9 (.int .i64 ((32 - s.dirs.length : Nat) : Int)) (by rfl) (by rfl) (.slice A10 n10 c10) w10 hr10 ?_; have b810 := b89.out.grown g10 b89.out.size (fun q hq => (own9'.out.lt q hq).1); have K7 : Hid (w10.cell? ⟨w.heap.size, 6, none⟩ = some (.slice s.D s.dirs.length s.dc)) := Lib.hid ((b810.cell (p := ⟨w.heap.size, 6, none⟩) hV8).trans c6'); replace b810 := Lib.hid b810; have g410 := row_later b810.out g48; have c43 := World.cell?_of_row g410.out 3 _ rfl; have f43 := frozen_of_row _ (w.heap.size + 1 + 1) 3 _ _ g410.out; have C11 := (Chg.refl (· = w.heap.size + 1 + 1) w10).setCell ⟨w.heap.size + 1 + 1, 3, none⟩ (.slice A10 n10 c10) (.inl rfl); have K8 : Hid ((w10.setCell ⟨w.heap.size + 1 + 1, 3, none⟩ (.slice A10 n10 c10)).cell? ⟨w.heap.size, 6, none⟩ = some (.slice s.D s.dirs.length s.dc)) := Lib.hid ((C11.cell (p := ⟨w.heap.size, 6, none⟩) (Nat.lt_of_lt_of_le hV8 b810.out.size) (by show ¬ w.heap.size = w.heap.size + 1 + 1; omega)).trans K7.out); replace C11 := Lib.hid C11; clear g10 hr10))
      have g411 := Lib.hid (heap_setCell_same w10 (w.heap.size + 1 + 1) 3 _ _ (.slice A10 n10 c10) g410.out)
      have b811 := Lib.hid (C11.out.below (B := w.heap.size) (by have := b810.out.size; omega) (fun k hk e => by omega))
      go_wp2_with fail
      go_meet
      case rel =>
        have KK := keeps_set (i := 3) (x := .slice A10 n10 c10) g410.out
        have hz := b3.out.size
        exact ⟨A10, n10, c10, Lib.hid (PS.start (owns_keeps (owns_later own9.out b810.out) KK (by decide)) (C11.out.row (row_later b810.out g18).out (by omega)) ⟨_, rfl, C11.out.row (row_later b810.out g28).out (by omega)⟩ (by simpa using g411.out) ((b08.out.trans (b810.out.mono (by omega))).trans b811.out) (Nat.le_refl _) (by omega) (by omega) rfl)⟩
    · have hlen : Hid (s.nums.length = 29) := Lib.hid (by
        have h := hV.out.ov.kind
        rw [hK] at h
        rcases h with h | h | h <;> first | exact h.2.1 | exact absurd h.1 (by decide))
      have hn100 : s.nums.length ≤ 100 := by have := hlen.out; omega
      have hop : m.opt = rowB optW64 s.nums ++ rowB (List.replicate s.dirs.length 4) s.dirs := by rw [hV.out.opt, hK]; rfl
      have hd32 : s.dirs.length ≤ 32 := by
        obtain ⟨k, hk, hd, -⟩ := hV.out.ov.last (by rw [hK]; decide)
        omega
      have c4 := World.cell?_of_row g1.out 4 (.int .i64 (64 : Int)) (by rw [← hmc]; unfold MadeS.cells; rw [hK]; rfl)
      have c5 := World.cell?_of_row g1.out 5 (.slice s.N s.nums.length s.nc) (by rw [← hmc]; rfl)
      have c6 := World.cell?_of_row g1.out 6 (.slice s.D s.dirs.length s.dc) (by rw [← hmc]; rfl)
      have hN3 := Lib.hid (rc_later hV.out.nums.rc b3.out)
      have hD3 := Lib.hid (rc_later hV.out.dirs.rc b3.out)
      have hnb := Lib.hid hV.out.ov.bnd
      have hdb := Lib.hid hV.out.ov.bdd
      have hnc := hV.out.nc
      have hdc := hV.out.dc
      have hl1 : Hid ((rowB optW64 s.nums).length = 112) := Lib.hid (by rw [rowB_len]; decide)
      have hl2 : Hid ((rowB (List.replicate s.dirs.length 4) s.dirs).length = 4 * s.dirs.length) := Lib.hid (by rw [rowB_len, width_four])
      have hfo : Hid (widthsOk (List.replicate s.dirs.length 4)) := Lib.hid (fun k x h => .inl (by
        have := List.mem_of_getElem? h
        rw [List.mem_replicate] at this
        obtain ⟨-, rfl⟩ := this
        omega))
      have hcf : Hid (cntW (List.replicate s.dirs.length 4) ≤ s.dirs.length) := Lib.hid (Nat.le_of_eq (cnt_four _))
      have hcn : Hid (cntW optW64 ≤ s.nums.length) := Lib.hid (by rw [hlen.out, cnt64]; exact Nat.le_refl _)
      have hV1 : w.heap.size < w3.heap.size := by omega
      go_upto_region 4 with fail
      go_region_held3 (fun w' => w'.cell? ⟨w.heap.size, 4, none⟩ = some (.int .i64 (64 : Int)) ∧ w'.cell? ⟨w.heap.size, 5, none⟩ = some (.slice s.N s.nums.length s.nc) ∧ w'.cell? ⟨w.heap.size, 6, none⟩ = some (.slice s.D s.dirs.length s.dc))
        (first | exact ⟨c4, c5, c6⟩ | exact K1.out | exact K2.out | exact K3.out | exact K4.out | go_keep | exact K5.out)
        (first
          | (go_at_call 11; refine (peOptional_true _).mono ?_; rintro e w4 ⟨⟨vw, cw, rfl, hcw, RW⟩, b4'⟩; have b4 := Lib.hid (und b4'); have K1 := Lib.hid (cells3 ⟨c4, c5, c6⟩ hV1 b4.out); have hN4 := Lib.hid (rc_later hN3.out b4.out); clear b4')
          | (refine step_append_bytes Tryz.underlying34 Tryz.infoByte (by rfl) (.tmp 40) (.tmp 47) (by rfl) w4.heap.size _ _ (rowB optW64 s.nums) (by rfl) ownN.out AD _ cD (rowB (List.replicate s.dirs.length 4) s.dirs) (by rfl) rfl RD.out (by rw [hl1.out, hl2.out]; omega) (Nat.le_trans b5.out.size (Nat.le_trans b6.out.size b7.out.size)) ?_; intro v8 w8 own8 g8 at8; have b38 := Lib.hid (b37.out.grown g8 b37.out.size (fun q hq => Nat.le_trans b4.out.size (ownN.out.lt q hq).1)); have K5 := Lib.hid (cells3 ⟨c4, c5, c6⟩ hV1 b38.out); have own9 : Hid (w8.ownsRow w.heap.size 5 1 v8 m.opt.length (m.opt.map bv)) := Lib.hid (by rw [hop, List.length_append]; exact owns_mono own8 (Nat.le_trans b3.out.size b4.out.size)); clear own8 g8 at8)
          | (go_at_call 12; refine (specRow_any AF s.D s.dirs.length cF s.dirs.length s.dc (List.replicate s.dirs.length 4) s.dirs _ hfo hcf (by omega) (by omega) hdc hdb RF hD6).mono ?_; rintro e w7 ⟨⟨vd, rfl, own7⟩, b7'⟩; obtain ⟨-, AD, cD, rfl, RD, hcD, -, -, -⟩ := RB.of_owns own7; replace RD := Lib.hid RD; have ownN := Lib.hid (owns_later (owns_later own5 b6.out) b7'); have b37 := Lib.hid (((b4.out.trans (b5.out.mono b4.out.size)).trans (b6.out.mono (Nat.le_trans b4.out.size b5.out.size))).trans (b7'.mono (Nat.le_trans b4.out.size (Nat.le_trans b5.out.size b6.out.size)))); have b7 := Lib.hid b7'; have K4 := Lib.hid (cells3 K3.out (Nat.lt_of_lt_of_le hV1 (Nat.le_trans b4.out.size (Nat.le_trans b5.out.size b6.out.size))) b7.out); clear b7')
          | (go_at_call 12; refine (specRow_any vw s.N 29 cw s.nums.length s.nc optW64 s.nums _ wid64 hcn (by omega) (by omega) hnc hnb RW hN4).mono ?_; rintro e w5 ⟨⟨vn, rfl, own5⟩, b5'⟩; have b5 := Lib.hid b5'; have K2 := Lib.hid (cells3 K1.out (Nat.lt_of_lt_of_le hV1 b4.out.size) b5.out); clear b5')
          | (go_at_call 13; refine (fours_any s.dirs.length (by omega) _).mono ?_; rintro e w6 ⟨⟨vf, rfl, own6⟩, b6'⟩; have b6 := Lib.hid b6'; obtain ⟨AF, cF, rfl, RF, hcF, -⟩ := RC.of_owns own6; have K3 := Lib.hid (cells3 K2.out (Nat.lt_of_lt_of_le hV1 (Nat.le_trans b4.out.size b5.out.size)) b6.out); have hD6 := Lib.hid (rc_later (rc_later (rc_later hD3.out b4.out) b5.out) b6.out); replace RF := Lib.hid RF; clear own6 b6'))
      have c6' := K5.out.2.2
      have hD8 := Lib.hid (rc_later hD3.out b38.out)
      have g18 := row_later b38.out g1
      have g28 := row_later b38.out g2
      have g48 := row_later b38.out g4
      have z8 := b38.out.size
      have b08 := Lib.hid (b3.out.trans (b38.out.mono b3.out.size))
      clear K1 K2 K3 K4 K5 c4 c5 c6 hN3 hD3 b4 b5 b6 b7 b37 b38 RW RF RD ownN own5 hN4 hD6 hcn hcf hfo hl1 hl2 hnb hdb
      have hq : IntKind.i64.wrap (32 - (s.dirs.length : Int)) = ((32 - s.dirs.length : Nat) : Int) := by
        rw [IntWalk.i64_in _ (by omega)]
        omega
      obtain ⟨i0, hi, hz0, hz1, hz2⟩ := info_parts Tryz.info64
      have hV8 : w.heap.size < w8.heap.size := by omega
      go_wp2_with fail
      go_region_held3 (fun w' => w'.cell? ⟨w.heap.size, 6, none⟩ = some (.slice s.D s.dirs.length s.dc))
        (first | exact c6' | exact K6.out | exact K7.out | exact K8.out | go_keep)
        (first
          | (refine step_append_any (by rfl) (.tmp 49) (.tmp 51) 25 (by rfl) w8.heap.size 54 i0 (.int .u64 0) 1 8 Tryz.underlying25 hi hz0 hz1 hz2 rfl (by omega) _ 0 [] (by rfl) (owns_new 54 (Nat.le_refl _)).drew s.D s.dirs.length s.dc (s.dirs.map uv) (by rfl) (rc_later hD8.out ((Below.refl _ _).alloc (Nat.le_refl _) _).drew) (uv_one _) (by simp only [maxLen]; omega) (by omega) (by simp) ?_; intro v9 w9 own9' g9 at9; have b89 := (((Below.refl w8.heap.size w8).alloc (Nat.le_refl _) (.cells #[] 54)).drew).grown g9 (by simp) (fun q hq => Nat.le_of_eq (Option.some.inj hq)); have K6 : Hid (w9.cell? ⟨w.heap.size, 6, none⟩ = some (.slice s.D s.dirs.length s.dc)) := Lib.hid ((b89.cell (p := ⟨w.heap.size, 6, none⟩) hV8).trans c6'); replace b89 := Lib.hid b89; replace own9' := Lib.hid own9'; clear g9 at9)
          | (obtain ⟨A10, n10, c10, w10, hr10, g10⟩ := run_append_noughts (P := Tryz.prog) w8.heap.size 25 3 25 54 Tryz.underlying25 Tryz.underlying3 Tryz.info64 v9 _ _ own9'.out (32 - s.dirs.length) (by omega) (by omega); refine step_append_run (by rfl) (.tmp 52) (.tmp 56) 25 3 (by rfl) v9 (.int .i64 ((32 - s.dirs.length : Nat) : Int)) (by rfl) (by rfl) (.slice A10 n10 c10) w10 hr10 ?_; have b810 := b89.out.grown g10 b89.out.size (fun q hq => (own9'.out.lt q hq).1); have K7 : Hid (w10.cell? ⟨w.heap.size, 6, none⟩ = some (.slice s.D s.dirs.length s.dc)) := Lib.hid ((b810.cell (p := ⟨w.heap.size, 6, none⟩) hV8).trans c6'); replace b810 := Lib.hid b810; have g410 := row_later b810.out g48; have c43 := World.cell?_of_row g410.out 3 _ rfl; have f43 := frozen_of_row _ (w.heap.size + 1 + 1) 3 _ _ g410.out; have C11 := (Chg.refl (· = w.heap.size + 1 + 1) w10).setCell ⟨w.heap.size + 1 + 1, 3, none⟩ (.slice A10 n10 c10) (.inl rfl); have K8 : Hid ((w10.setCell ⟨w.heap.size + 1 + 1, 3, none⟩ (.slice A10 n10 c10)).cell? ⟨w.heap.size, 6, none⟩ = some (.slice s.D s.dirs.length s.dc)) := Lib.hid ((C11.cell (p := ⟨w.heap.size, 6, none⟩) (Nat.lt_of_lt_of_le hV8 b810.out.size) (by show ¬ w.heap.size = w.heap.size + 1 + 1; omega)).trans K7.out); replace C11 := Lib.hid C11; clear g10 hr10))
      have g411 := Lib.hid (heap_setCell_same w10 (w.heap.size + 1 + 1) 3 _ _ (.slice A10 n10 c10) g410.out)
      have b811 := Lib.hid (C11.out.below (B := w.heap.size) (by have := b810.out.size; omega) (fun k hk e => by omega))
      go_wp2_with fail
      go_meet
      case rel =>
        have KK := keeps_set (i := 3) (x := .slice A10 n10 c10) g410.out
        have hz := b3.out.size
        exact ⟨A10, n10, c10, Lib.hid (PS.start (owns_keeps (owns_later own9.out b810.out) KK (by decide)) (C11.out.row (row_later b810.out g18).out (by omega)) ⟨_, rfl, C11.out.row (row_later b810.out g28).out (by omega)⟩ (by simpa using g411.out) ((b08.out.trans (b810.out.mono (by omega))).trans b811.out) (Nat.le_refl _) (by omega) (by omega) rfl)⟩
    --]A
  case rest =>
    obtain ⟨X3, xn3, xc3, hcut⟩ := hcut
    obtain ⟨x3, hx3⟩ : ∃ x3, x3 = Value.slice X3 xn3 xc3 := ⟨_, rfl⟩
    rw [← hx3] at hcut
    replace hx3 := Lib.hid hx3
    have c10 := World.cell?_of_row hcut.out.v1 0 (.int .i64 (m.stub : Int)) (by rw [← hmc]; rfl)
    have c17 := World.cell?_of_row hcut.out.v1 7 (.slice BB m.bits.length s.bc) (by rw [← hmc, ← hBB]; rfl)
    have hstub := hok.out.stub
    have hb4 := hok.out.b4
    have hopl : m.opt.length ≤ 240 := by rw [hV.out.opt]; exact hV.out.ov.len
    obtain ⟨O, oc, rfl, hOB, hoc⟩ : ∃ O oc, u5 = .slice O m.opt.length oc ∧ Hid (RB wc O m.opt) ∧ m.opt.length ≤ oc := by
      obtain ⟨-, O, oc, e, h, hc, -⟩ := RB.of_owns hcut.out.o
      exact ⟨O, oc, e, Lib.hid h, hc⟩
    go_upto_if 61 with fail
    go_cut [6] from 59 to 64 (fun c6 wx => c6 = .int .i64 ((preB m).length : Int) ∧ wx = wc)
    case first =>
      --[B
      by_cases h0 : m.stub = 0
      · have h1 : ¬ 0 < m.stub := by omega
        go_wp2_with fail
        go_meet
        case rel => exact ⟨by rw [preB_len (hok.out.stub), if_pos h0]; rfl, rfl⟩
      · have h1 : 0 < m.stub := by omega
        go_wp2_with fail
        go_meet
        case rel => exact ⟨by rw [preB_len (hok.out.stub), if_neg h0]; go_num, rfl⟩
      --]B
    case rest =>
      obtain ⟨rfl, rfl⟩ := hcut
      have hpl : (preB m).length ≤ 131 := by
        rw [preB_len (hok.out.stub)]
        split <;> omega
      obtain ⟨w13, e13⟩ : ∃ w13, ((wc.alloc (.cells #[] 5)).alloc (.cells #[] 5)).alloc (.cells #[] 5) = w13 := ⟨_, rfl⟩
      obtain ⟨P13, b13, z13⟩ := hcut.out.rows e13.symm
      have c17' := World.cell?_of_row P13.v1 7 (.slice BB m.bits.length s.bc) (by rw [← hmc, ← hBB]; rfl)
      rw [← e13] at c17'
      have hOB13 := Lib.hid (hOB.out.later b13)
      have hat : Hid (atN m = (preB m).length + 20 + m.opt.length + 40 * m.bits.length) := Lib.hid rfl
      replace P13 := Lib.hid P13
      replace b13 := Lib.hid b13
      replace e13 := Lib.hid e13
      go_wp2_with fail
      rw [e13.out]
      have eat : (((preB m).length : Int) + 20 + (m.opt.length : Int) + 40 * (m.bits.length : Int)) = (atN m : Int) := by rw [hat.out]; omega
      have hnames := Lib.hid (bit_cells hV.out hBB)
      rw [eat]
      clear eat
      have hatb : atN m ≤ 1000 := by rw [hat.out]; omega
      go_loopw [8, 9, 10, 81] (fun vt vh vr i wr => ∃ (k : Nat) (vp : Value) (pcs : List Value), k ≤ m.bits.length ∧ i = .int .i64 k ∧
        Hid (PS w wr w.heap.size (w.heap.size + 1) (w.heap.size + 1 + 1) mc [.slice none 0 0, .int .i64 K, .slice s.N s.nums.length s.nc, x3] m.opt (.slice O m.opt.length oc) (secSt (atN m) m.bits k).texts (secSt (atN m) m.bits k).heads (secSt (atN m) m.bits k).rest vt vh vr k 0 0 vp (.slice none 0 0) (.slice none 0 0) pcs [] []) ∧
        Hid (Recs RPart w 4 k pcs (m.bits.take k))) (fun _ _ _ i _ => m.bits.length - (intOf i).toNat)
      case atStart => exact ⟨0, .slice none 0 0, [], Nat.zero_le _, rfl, P13, Lib.hid (Recs.nil _ _ _)⟩
      case round =>
        obtain ⟨k, vp, pcs, hk, rfl, hP, hR⟩ := hrel
        by_cases hkn : k < m.bits.length
        ·
          --[R
          obtain ⟨g, o, b, A, d, c, R, r, c', vs, rfl, hb, hAt, q0, q1, q2, q3, q4, q5⟩ := hnames.out k hkn
          have hbw := hP.out.b
          have hP0' := hbw.size
          replace q0 := (hbw.cell (p := ⟨g, o + k * 6, none⟩) (World.block_lt_of_cell? w _ q0)).trans q0
          replace q1 := (hbw.cell (p := ⟨g, o + k * 6 + 1, none⟩) (World.block_lt_of_cell? w _ q1)).trans q1
          replace q2 := (hbw.cell (p := ⟨g, o + k * 6 + 2, none⟩) (World.block_lt_of_cell? w _ q2)).trans q2
          replace q3 := (hbw.cell (p := ⟨g, o + k * 6 + 3, none⟩) (World.block_lt_of_cell? w _ q3)).trans q3
          replace q4 := (hbw.cell (p := ⟨g, o + k * 6 + 4, none⟩) (World.block_lt_of_cell? w _ q4)).trans q4
          replace q5 := (hbw.cell (p := ⟨g, o + k * 6 + 5, none⟩) (World.block_lt_of_cell? w _ q5)).trans q5
          go_upto_region 14 with fail
          have hbo := hok.out.bits b (List.mem_of_getElem? hb)
          have hdl : d = b.data.length := by have := hAt.out.data.1; simpa using this.symm
          have hrl : r = b.relocs.length := by have := hAt.out.recs; obtain ⟨_, _, _, h3, _⟩ := this; exact h3.symm
          subst hdl
          subst hrl
          have hd40 := hbo.d
          have hr3 := hbo.r
          have u1 := hAt.out.size
          have u2 := hAt.out.addr
          have u3 := hAt.out.flags
          have hcap := hAt.out.cap
          obtain ⟨w14, e14⟩ : ∃ w', wr.alloc (.cells #[.string ⟨b.name.toArray⟩, .int .u32 b.size, .int .u32 b.addr, .int .u32 b.flags, .slice A b.data.length c, .slice R b.relocs.length c'] 57) = w' := ⟨_, rfl⟩
          have g12 : Hid (w14.heap[wr.heap.size]? = some (.cells #[.string ⟨b.name.toArray⟩, .int .u32 b.size, .int .u32 b.addr, .int .u32 b.flags, .slice A b.data.length c, .slice R b.relocs.length c'] 57 (0, 0))) := Lib.hid (by rw [← e14]; exact heap_alloc_new wr _)
          have z14 : w14.heap.size = wr.heap.size + 1 := by rw [← e14]; simp
          have bl14 : Below wr.heap.size wr w14 := by rw [← e14]; exact (Below.refl _ wr).alloc (Nat.le_refl _) _
          have P14 := Lib.hid (hP.out.later bl14)
          clear bl14
          rw [e14]
          clear e14 hP q0 q1 q2 q3 q4 q5 hbw
          have hP0 : Hid (w.heap.size ≤ wr.heap.size) := Lib.hid hP0'
          obtain ⟨V12, eV⟩ : ∃ V, wr.heap.size = V := ⟨_, rfl⟩
          rw [eV] at hP0
          rw [eV] at g12 z14
          rw [eV]
          clear eV
          have r0 := World.cell?_of_row g12.out 0 _ rfl
          have r1 := World.cell?_of_row g12.out 1 _ rfl
          have r2 := World.cell?_of_row g12.out 2 _ rfl
          have r3 := World.cell?_of_row g12.out 3 _ rfl
          have r4 := World.cell?_of_row g12.out 4 _ rfl
          have r5 := World.cell?_of_row g12.out 5 _ rfl
          go_upto_region 15 with fail
          obtain ⟨w15, e15⟩ : ∃ w', w14.alloc (.cells (numsC b b.data.length 0 0).toArray 54) = w' := ⟨_, rfl⟩
          have g13 : Hid (w15.heap[V12 + 1]? = some (.cells (numsC b b.data.length 0 0).toArray 54 (0, 0))) := Lib.hid (by rw [← z14, ← e15]; exact heap_alloc_new w14 _)
          have bl15 : Below w14.heap.size w14 w15 := by rw [← e15]; exact (Below.refl _ w14).alloc (Nat.le_refl _) _
          have P15 := Lib.hid (P14.out.later bl15)
          have h12 := row_later bl15 g12
          have ex : (.cells #[.int .u64 (b.size : Int), .int .u64 (b.addr : Int), .int .u64 (b.data.length : Int), .int .u64 0, .int .u64 0, .int .u64 0, .int .u64 (b.relocs.length : Int), .int .u64 0, .int .u64 (b.flags : Int)] 54 : Obj) = .cells (numsC b b.data.length 0 0).toArray 54 := rfl
          rw [ex, e15]
          have hV0 : w.heap.size ≤ V12 := by have := P14.out.b.size; have := hP0.out; omega
          clear ex e15 bl15 P14 g12 r0 r1 r2 r3 r4 r5
          have r4 := World.cell?_of_row h12.out 4 _ rfl
          have r1 := World.cell?_of_row h12.out 1 _ rfl
          obtain ⟨-, TA, tc, rfl, -, htc, -⟩ := RB.of_owns P15.out.t
          obtain ⟨-, HA, hc, rfl, -, hhc, -⟩ := RB.of_owns P15.out.h
          obtain ⟨-, RA, rc, rfl, -, hrc, -⟩ := RB.of_owns P15.out.r
          have hlens := secSt_len hb4 hok.out.bits (at_ := atN m) k (by omega)
          go_upto_if 106 with fail
          go_cut [] from 82 to 180 (fun wx => Hid (PS w wx w.heap.size (w.heap.size + 1) (w.heap.size + 1 + 1) mc [.slice none 0 0, .int .i64 K, .slice s.N s.nums.length s.nc, x3] m.opt (.slice O m.opt.length oc) (secSt (atN m) m.bits k).texts (secSt (atN m) m.bits k).heads (secSt (atN m) m.bits k).rest (.slice TA (secSt (atN m) m.bits k).texts.length tc) (.slice HA (secSt (atN m) m.bits k).heads.length hc) (.slice RA (secSt (atN m) m.bits k).rest.length rc) k 0 0 vp (.slice none 0 0) (.slice none 0 0) pcs [] []) ∧
            Hid (wx.heap[V12]? = some (.cells #[.string ⟨b.name.toArray⟩, .int .u32 b.size, .int .u32 b.addr, .int .u32 b.flags, .slice A b.data.length c, .slice R b.relocs.length c'] 57 (0, 0))) ∧
            Hid (wx.heap[V12 + 1]? = some (.cells (numsC b (n2 b) (n3 (atN m) (secSt (atN m) m.bits k).rest b) 0).toArray 54 (0, 0))))
          case first =>
            --[C
            have t2 := World.cell?_of_row g13.out 2 _ rfl
            have t3 := World.cell?_of_row g13.out 3 _ rfl
            have f2 := frozen_of_row _ (V12 + 1) 2 _ _ g13.out
            have f3 := frozen_of_row _ (V12 + 1) 3 _ _ g13.out
            by_cases hd0 : b.data.length = 0
            · have hd1 : ¬ 0 < b.data.length := by omega
              have hde := List.eq_nil_of_length_eq_zero hd0
              have hq : IntKind.u32.wrap ((b.size : Int) % 64) = ((b.size % 64 : Nat) : Int) := by rw [IntKind.wrap_u32]; omega
              have hq2 : IntKind.u64.wrap ((b.size : Int) % 64) = ((b.size % 64 : Nat) : Int) := by rw [IntKind.wrap_u64]; omega
              go_wp2_with fail
              go_meet
              case rel =>
                have g13' := heap_setCell_same w15 (V12 + 1) 2 _ _ (.int .u64 ((b.size % 64 : Nat) : Int)) g13.out
                have e9 : (numsC b b.data.length 0 0).toArray.setIfInBounds 2 (.int .u64 ((b.size % 64 : Nat) : Int)) = (numsC b (n2 b) (n3 (atN m) (secSt (atN m) m.bits k).rest b) 0).toArray := by
                  unfold n2 n3
                  rw [if_pos hde, if_pos hde]
                  rfl
                rw [e9] at g13'
                exact ⟨Lib.hid (P15.out.poke 2 _ g13.out (by omega)), Lib.hid ((keeps_set g13.out).block _ _ _ _ h12.out (by decide)), Lib.hid g13'⟩
            · have hd1 : 0 < b.data.length := by omega
              have hde : b.data ≠ [] := fun e => hd0 (by rw [e]; rfl)
              go_wp2_with fail
              go_meet
              case rel =>
                have g13' := heap_setCell_same w15 (V12 + 1) 3 _ _ (.int .u64 ((atN m + (secSt (atN m) m.bits k).rest.length : Nat) : Int)) g13.out
                have e9 : (numsC b b.data.length 0 0).toArray.setIfInBounds 3 (.int .u64 ((atN m + (secSt (atN m) m.bits k).rest.length : Nat) : Int)) = (numsC b (n2 b) (n3 (atN m) (secSt (atN m) m.bits k).rest b) 0).toArray := by
                  unfold n2 n3
                  rw [if_neg hde, if_neg hde]
                  rfl
                rw [e9] at g13'
                exact ⟨Lib.hid (P15.out.poke 3 _ g13.out (by omega)), Lib.hid ((keeps_set g13.out).block _ _ _ _ h12.out (by decide)), Lib.hid g13'⟩
            --]C
          case rest =>
            obtain ⟨hP, h12', h13⟩ := hcut
            clear P15 h12 g13 r1 r4
            have r0 := World.cell?_of_row h12'.out 0 _ rfl
            have r4 := World.cell?_of_row h12'.out 4 _ rfl
            have r5 := World.cell?_of_row h12'.out 5 _ rfl
            have hbd : b.data.length ≤ 40 := hbo.d
            have hA := Lib.hid ((hAt.out.data.later (by have := hP.out.b; exact this)).bytes)
            obtain ⟨hl1, hl2', hl3⟩ := hlens
            have hl2 : (secSt (atN m) m.bits k).heads.length ≤ 160 := by rw [hl2']; omega
            clear hl2'
            -- the data
            go_wp2_with (at_builtin; refine Stop.mk ?_)
            refine Stop.go ?_
            refine wpList_append_bytes Tryz.underlying34 Tryz.infoByte rfl (.tmp 120) (.tmp 122) rfl w.heap.size _ _ (secSt (atN m) m.bits k).rest rfl hP.out.r A b.data.length c b.data rfl rfl hA.out (by omega) hP.out.b.size ?_
            intro v4 w4 own4 g4 at4
            rw [← List.length_append] at own4
            have K4 := Keeps.of_grown hP.out.r g4
            have h12 := Lib.hid (K4.block _ _ _ _ h12'.out (by decide))
            have h13' := Lib.hid (K4.block _ _ _ _ h13.out (by decide))
            have P4 := Lib.hid (hP.out.growR own4 g4 at4)
            have hrl4 : ((secSt (atN m) m.bits k).rest ++ b.data).length ≤ 400 := by rw [List.length_append]; omega
            obtain ⟨rs4, ers4⟩ : ∃ rs4, (secSt (atN m) m.bits k).rest ++ b.data = rs4 := ⟨_, rfl⟩
            rw [ers4] at P4 hrl4
            replace ers4 := Lib.hid ers4
            clear own4 g4 at4 K4 h12' h13 hP hA r0 r4 r5
            obtain ⟨-, RA4, rc4, rfl, -, hrc4, -⟩ := RB.of_owns P4.out.r
            have r5 := World.cell?_of_row h12.out 5 _ rfl
            have t4 := World.cell?_of_row h13'.out 4 _ rfl
            have f4 := frozen_of_row _ (V12 + 1) 4 _ _ h13'.out
            go_upto_region 20 with fail
            obtain ⟨w5, e5⟩ : ∃ w', w4.setCell ⟨V12 + 1, 4, none⟩ (.int .u64 ((atN m : Int) + (rs4.length : Int))) = w' := ⟨_, rfl⟩
            have K5 : Keeps 54 w4 w5 := by rw [← e5]; exact keeps_set h13'.out
            have P5 := P4.out.poke 4 (.int .u64 ((atN m : Int) + (rs4.length : Int))) h13'.out (by omega)
            rw [e5] at P5
            have h13 : Hid (w5.heap[V12 + 1]? = some (.cells (numsC b (n2 b) (n3 (atN m) (secSt (atN m) m.bits k).rest b) (atN m + rs4.length)).toArray 54 (0, 0))) := Lib.hid (by
              have h := heap_setCell_same w4 (V12 + 1) 4 _ _ (.int .u64 ((atN m : Int) + (rs4.length : Int))) h13'.out
              rw [e5] at h
              rw [h, ← Int.natCast_add]
              rfl)
            replace h12 := Lib.hid (K5.block _ _ _ _ h12.out (by decide))
            rw [e5]
            replace P5 := Lib.hid P5
            clear e5 K5 P4 h13' t4 f4 r5
            have r5 := World.cell?_of_row h12.out 5 _ rfl
            have hat' := Lib.hid (rel_cells hAt.out)
            go_wp2_with fail
            go_loopw [10, 134] (fun vr i wr => ∃ j : Nat, j ≤ b.relocs.length ∧ i = .int .i64 j ∧
              Hid (PS w wr w.heap.size (w.heap.size + 1) (w.heap.size + 1 + 1) mc [.slice none 0 0, .int .i64 K, .slice s.N s.nums.length s.nc, x3] m.opt (.slice O m.opt.length oc) (secSt (atN m) m.bits k).texts (secSt (atN m) m.bits k).heads (rs4 ++ relsB (b.relocs.take j)) (.slice TA (secSt (atN m) m.bits k).texts.length tc) (.slice HA (secSt (atN m) m.bits k).heads.length hc) vr k 0 0 vp (.slice none 0 0) (.slice none 0 0) pcs [] []) ∧
              Hid (wr.heap[V12]? = some (.cells #[.string ⟨b.name.toArray⟩, .int .u32 b.size, .int .u32 b.addr, .int .u32 b.flags, .slice A b.data.length c, .slice R b.relocs.length c'] 57 (0, 0))) ∧
              Hid (wr.heap[V12 + 1]? = some (.cells (numsC b (n2 b) (n3 (atN m) (secSt (atN m) m.bits k).rest b) (atN m + rs4.length)).toArray 54 (0, 0)))) (fun _ i _ => b.relocs.length - (intOf i).toNat)
            case atStart => exact ⟨0, Nat.zero_le _, rfl, Lib.hid (by simpa [relsB] using P5.out), h12, h13⟩
            case round =>
              obtain ⟨j, hj, rfl, hP, h12, h13⟩ := hrel
              by_cases hjn : j < b.relocs.length
              · obtain ⟨gR, oR, A3, x, rfl, hx, hx0, hx1, hx2, hA3, q0⟩ := hat'.out j hjn
                have hbw := hP.out.b
                replace q0 := (hbw.cell (p := ⟨gR, oR + j, none⟩) (World.block_lt_of_cell? w _ q0)).trans q0
                have RX := Lib.hid (rc_later hA3.out hbw)
                obtain ⟨rsj, ersj⟩ : ∃ rsj, rs4 ++ relsB (b.relocs.take j) = rsj := ⟨_, rfl⟩
                have hrsj : rsj.length ≤ 430 := by
                  rw [← ersj, List.length_append, relsB_len, List.length_take]
                  omega
                rw [ersj] at hP
                replace ersj := Lib.hid ersj
                obtain ⟨-, RA4, rc4, rfl, -, hrc4, -⟩ := RB.of_owns hP.out.r
                clear hbw
                have hb3 : Hid (∀ v ∈ [x.1, x.2.1, x.2.2], v ≤ 18446744073709551615) := Lib.hid (fun v hv => by
                  simp only [List.mem_cons, List.not_mem_nil, or_false] at hv
                  rcases hv with rfl | rfl | rfl
                  · exact hx0
                  · exact hx1
                  · exact hx2)
                clear hx0 hx1 hx2
                go_wp2_with fail
                refine (peReloc_any _).mono ?_
                rintro e w6 ⟨⟨vw, rfl, RW⟩, b6⟩
                have P6 := Lib.hid (hP.out.later b6)
                have RX6 := Lib.hid (rc_later RX.out b6)
                replace h12 := row_later b6 h12
                replace h13 := row_later b6 h13
                replace RW := Lib.hid RW
                clear b6 hP q0 RX
                go_wp2_with fail
                refine (specRow_any vw A3 3 3 3 3 [4, 4, 2] [x.1, x.2.1, x.2.2] _ wid3 (Lib.hid (by decide)) (by omega) (by omega) (by omega) hb3 RW RX6).mono ?_
                rintro e w7 ⟨⟨vn, rfl, own7⟩, b7⟩
                obtain ⟨-, AN, cN, rfl, RN, hcN, -⟩ := RB.of_owns own7
                have P7 := Lib.hid (P6.out.later b7)
                replace h12 := row_later b7 h12
                replace h13 := row_later b7 h13
                have hl7 : Hid ((rowB [4, 4, 2] [x.1, x.2.1, x.2.2]).length = 10) := Lib.hid (by rw [rowB_rel, relB_len])
                replace RN := Lib.hid RN
                clear b7 own7 P6 RX6 RW
                go_wp2_with (at_builtin; refine Stop.mk ?_)
                refine Stop.go ?_
                refine wpList_append_bytes Tryz.underlying34 Tryz.infoByte rfl (.tmp 138) (.tmp 141) rfl w.heap.size _ _ rsj rfl P7.out.r AN _ cN (rowB [4, 4, 2] [x.1, x.2.1, x.2.2]) rfl rfl RN.out (by rw [hl7.out]; omega) P7.out.b.size ?_
                intro v8 w8 own8 g8 at8
                have e8 : rsj ++ rowB [4, 4, 2] [x.1, x.2.1, x.2.2] = rs4 ++ relsB (b.relocs.take (j + 1)) := by rw [relsB_take hx, rowB_rel, ← ersj.out, List.append_assoc]
                rw [← List.length_append, e8] at own8
                have K8 := Keeps.of_grown P7.out.r g8
                replace h12 := Lib.hid (K8.block _ _ _ _ h12.out (by decide))
                replace h13 := Lib.hid (K8.block _ _ _ _ h13.out (by decide))
                have P8 := Lib.hid (P7.out.growR own8 g8 at8)
                clear own8 g8 at8 K8 e8 P7 RN
                go_wp2
                go_roundw
                case rel => exact ⟨j + 1, by omega, by go_num, P8, h12, h13⟩
                case measure => simp [intOf]; omega
              · obtain rfl : j = b.relocs.length := by omega
                rw [List.take_length] at hP
                have r0 := World.cell?_of_row h12.out 0 _ rfl
                obtain ⟨rs5, ers5⟩ : ∃ rs5, rs4 ++ relsB b.relocs = rs5 := ⟨_, rfl⟩
                rw [ers5] at hP
                have ers : Hid ((secStep (atN m) (secSt (atN m) m.bits k) b).rest = rs5) := Lib.hid (by rw [← ers5, ← ers4.out]; rfl)
                have hrs5 : rs5.length ≤ 430 := by
                  rw [← ers5, List.length_append, relsB_len]
                  omega
                replace ers5 := Lib.hid ers5
                have hl20 := hbo.n20
                go_upto_if 148 with fail
                go_cut [8, 16] from 82 to 180 (fun c8 c16 wx => c16 = .string ⟨(secNm (secSt (atN m) m.bits k).texts b).toArray⟩ ∧
                  Hid (PS w wx w.heap.size (w.heap.size + 1) (w.heap.size + 1 + 1) mc [.slice none 0 0, .int .i64 K, .slice s.N s.nums.length s.nc, x3] m.opt (.slice O m.opt.length oc) (secStep (atN m) (secSt (atN m) m.bits k) b).texts (secSt (atN m) m.bits k).heads rs5 c8 (.slice HA (secSt (atN m) m.bits k).heads.length hc) u10 k 0 0 vp (.slice none 0 0) (.slice none 0 0) pcs [] []) ∧
                  Hid (wx.heap[V12]? = some (.cells #[.string ⟨b.name.toArray⟩, .int .u32 b.size, .int .u32 b.addr, .int .u32 b.flags, .slice A b.data.length c, .slice R b.relocs.length c'] 57 (0, 0))) ∧
                  Hid (wx.heap[V12 + 1]? = some (.cells (numsC b (n2 b) (n3 (atN m) (secSt (atN m) m.bits k).rest b) (atN m + rs4.length)).toArray 54 (0, 0))))
                case first =>
                  --[D
                  by_cases hlong : 8 < b.name.length
                  · have hlong' : (8 : Int) < (b.name.length : Int) := by omega
                    have hf := figures_any (4 + (secSt (atN m) m.bits k).texts.length) (by omega) wr
                    have e4 : ((4 + (secSt (atN m) m.bits k).texts.length : Nat) : Int) = 4 + ((secSt (atN m) m.bits k).texts.length : Int) := by omega
                    rw [e4] at hf
                    replace hf := Lib.hid hf
                    have hfl := figs_len (n := 4 + (secSt (atN m) m.bits k).texts.length) (by omega)
                    have hsz : ¬ 9223372036854775807 < 1 + (figs (4 + (secSt (atN m) m.bits k).texts.length)).length := by omega
                    go_wp2_with fail
                    refine hf.out.mono ?_
                    rintro e w9 ⟨rfl, rfl⟩
                    go_wp2_with (at_builtin; refine Stop.mk ?_)
                    have hbs : Hid ((⟨b.name.toArray⟩ : ByteArray).size = b.name.length) := Lib.hid (by simp [ByteArray.size])
                    refine Stop.go ?_
                    refine wpList_append_text rfl (.tmp 154) (.tmp 156) 34 9 rfl w.heap.size 5 Tryz.underlying34 Tryz.underlying9 Tryz.infoByte _ _ (secSt (atN m) m.bits k).texts rfl hP.out.t ⟨b.name.toArray⟩ rfl (by rw [hbs.out]; omega) hP.out.b.size ?_
                    intro v10 w10 own10 g10 at10
                    have own10' : w10.ownsRow w.heap.size 5 1 v10 ((secSt (atN m) m.bits k).texts ++ b.name).length (((secSt (atN m) m.bits k).texts ++ b.name).map bv) := by
                      rw [List.length_append, ← hbs.out]
                      exact own10
                    have K10 := Keeps.of_grown hP.out.t g10
                    replace h12 := Lib.hid (K10.block _ _ _ _ h12.out (by decide))
                    replace h13 := Lib.hid (K10.block _ _ _ _ h13.out (by decide))
                    have P10 := Lib.hid (hP.out.growT own10' g10 at10)
                    clear own10 own10' g10 at10 K10 hP hf
                    obtain ⟨tx2, etx⟩ : ∃ tx2, (secSt (atN m) m.bits k).texts ++ b.name = tx2 := ⟨_, rfl⟩
                    have htx : tx2.length ≤ 120 := by rw [← etx, List.length_append]; omega
                    rw [etx] at P10
                    replace etx := Lib.hid etx
                    have bl11 : Below w10.heap.size w10 (w10.alloc (.cells #[.int .u8 0] 5)) := (Below.refl _ _).alloc (Nat.le_refl _) _
                    have P11 := Lib.hid (P10.out.later bl11)
                    have R0 : Hid (RB (w10.alloc (.cells #[.int .u8 0] 5)) (some ⟨w10.heap.size, 0, none⟩) [0]) := Lib.hid (RT.bytes (l := [0]) (RT.new (vs := [(0 : UInt8)].map bv) rfl))
                    replace h12 := row_later bl11 h12
                    replace h13 := row_later bl11 h13
                    clear bl11 P10
                    go_wp2_with (at_builtin; refine Stop.mk ?_)
                    refine Stop.go ?_
                    refine wpList_append_bytes Tryz.underlying34 Tryz.infoByte rfl (.tmp 157) (.tmp 158) rfl w.heap.size _ _ tx2 rfl P11.out.t (some ⟨w10.heap.size, 0, none⟩) 1 1 [0] rfl rfl R0.out (by omega) P11.out.b.size ?_
                    intro v11 w11 own11 g11 at11
                    have e11 : tx2 ++ [0] = (secStep (atN m) (secSt (atN m) m.bits k) b).texts := by unfold secStep; simp only; rw [if_pos hlong, ← etx.out]
                    have own11' : w11.ownsRow w.heap.size 5 1 v11 (tx2 ++ [0]).length ((tx2 ++ [0]).map bv) := by
                      rw [List.length_append]
                      exact own11
                    rw [e11] at own11'
                    have K11 := Keeps.of_grown P11.out.t g11
                    replace h12 := Lib.hid (K11.block _ _ _ _ h12.out (by decide))
                    replace h13 := Lib.hid (K11.block _ _ _ _ h13.out (by decide))
                    have P12 := Lib.hid (P11.out.growT own11' g11 at11)
                    clear own11 own11' g11 at11 K11 P11 R0
                    go_wp2_with fail
                    go_meet
                    case rel =>
                      refine ⟨?_, P12, h12, h13⟩
                      have e1 : secNm (secSt (atN m) m.bits k).texts b = slashed (4 + (secSt (atN m) m.bits k).texts.length) := by unfold secNm; rw [if_pos hlong]
                      rw [e1]
                      unfold slashed
                      congr 1
                  · have hlong' : ¬ (8 : Int) < (b.name.length : Int) := by omega
                    go_wp2_with fail
                    go_meet
                    case rel =>
                      have e1 : secNm (secSt (atN m) m.bits k).texts b = b.name := by unfold secNm; rw [if_neg hlong]
                      have e2 : (secStep (atN m) (secSt (atN m) m.bits k) b).texts = (secSt (atN m) m.bits k).texts := by unfold secStep; simp only; rw [if_neg hlong]
                      rw [e1, e2]
                      exact ⟨rfl, hP, h12, h13⟩
                  --]D
                case rest =>
                  obtain ⟨rfl, hP, h12, h13⟩ := hcut
                  have hnm8 := secNm_len (t := (secSt (atN m) m.bits k).texts) (b := b) (by omega)
                  obtain ⟨nm, enm⟩ : ∃ nm, secNm (secSt (atN m) m.bits k).texts b = nm := ⟨_, rfl⟩
                  rw [enm] at hnm8
                  rw [enm]
                  replace enm := Lib.hid enm
                  go_wp2_with fail
                  refine (peSection_any _).mono ?_
                  rintro e w12 ⟨⟨vw, rfl, RW⟩, b12⟩
                  have P12 := Lib.hid (hP.out.later b12)
                  replace h12 := row_later b12 h12
                  replace h13 := row_later b12 h13
                  replace RW := Lib.hid RW
                  have RN : Hid (RC w12 (some ⟨V12 + 1, 0, none⟩) 1 9 ((numsL b (n2 b) (n3 (atN m) (secSt (atN m) m.bits k).rest b) (atN m + rs4.length)).map uv)) := Lib.hid (rc_of_row rfl h13.out)
                  have hbn : Hid (∀ v ∈ numsL b (n2 b) (n3 (atN m) (secSt (atN m) m.bits k).rest b) (atN m + rs4.length), v ≤ 18446744073709551615) := Lib.hid (nums_le u1 u2 u3 hbo (by omega) (by omega))
                  clear b12 hP
                  go_wp2_with fail
                  refine (specRow_any vw (some ⟨V12 + 1, 0, none⟩) 10 10 9 9 secW _ _ widS cntS (by omega) (by omega) (by omega) hbn RW RN).mono ?_
                  rintro e w13 ⟨⟨vn, rfl, own13⟩, b13'⟩
                  obtain ⟨rb, erb⟩ : ∃ rb, rowB secW (numsL b (n2 b) (n3 (atN m) (secSt (atN m) m.bits k).rest b) (atN m + rs4.length)) = rb := ⟨_, rfl⟩
                  have hrb : rb.length = 40 := by rw [← erb, rowB_len]; decide
                  rw [erb, hrb] at own13
                  obtain ⟨gN, capN, rfl, hcn, hgN, hgl, -⟩ := owns_cellsN own13.out (by omega)
                  have hnms : (⟨nm.toArray⟩ : ByteArray).size = nm.length := by simp [ByteArray.size]
                  have CALL := Lib.hid (named_any gN 40 capN w12.heap.size rb ⟨nm.toArray⟩ w13 own13 (by rw [hnms]; omega) (by omega))
                  replace hrb := Lib.hid hrb
                  replace hnms := Lib.hid hnms
                  go_wp2_with fail
                  refine CALL.out.mono ?_
                  rintro e w14' ⟨rfl, own14, C14, z14'⟩
                  have bl14 : Below w12.heap.size w12 w14' := b13'.trans (C14.below b13'.size (fun q hq e => by omega))
                  have P14' := Lib.hid (P12.out.later bl14)
                  replace h12 := row_later bl14 h12
                  replace h13 := row_later bl14 h13
                  have ehd : Hid ((secSt (atN m) m.bits k).heads ++ ((⟨nm.toArray⟩ : ByteArray).data.toList ++ rb.drop (⟨nm.toArray⟩ : ByteArray).size) = (secStep (atN m) (secSt (atN m) m.bits k) b).heads) := Lib.hid (by
                    rw [hnms.out, ← erb, ← ers4.out]
                    show _ = (secSt (atN m) m.bits k).heads ++ headB (atN m) (secSt (atN m) m.bits k) b
                    rw [← head_eq (by rw [enm.out]; exact hnm8), enm.out])
                  obtain ⟨hl14, AH, cH, eH, RH, -⟩ := RB.of_owns own14.out
                  simp only [Value.slice.injEq, true_and] at eH
                  obtain ⟨rfl, rfl⟩ := eH
                  replace RH := Lib.hid RH
                  replace hl14 := Lib.hid hl14
                  clear b13' C14 z14' bl14 own14 own13 CALL P12 RN RW
                  go_wp2_with (at_builtin; refine Stop.mk ?_)
                  refine Stop.go ?_
                  refine wpList_append_bytes Tryz.underlying34 Tryz.infoByte rfl (.tmp 160) (.tmp 165) rfl w.heap.size _ _ (secSt (atN m) m.bits k).heads rfl P14'.out.h (some ⟨gN, 0, none⟩) 40 capN _ rfl hl14.out RH.out (by omega) P14'.out.b.size ?_
                  intro v15 w15' own15 g15 at15
                  have own15' : w15'.ownsRow w.heap.size 5 1 v15 (secStep (atN m) (secSt (atN m) m.bits k) b).heads.length ((secStep (atN m) (secSt (atN m) m.bits k) b).heads.map bv) := by
                    rw [← ehd.out, List.length_append, ← hl14.out]
                    exact own15
                  have K15 := Keeps.of_grown P14'.out.h g15
                  replace h12 := Lib.hid (K15.block _ _ _ _ h12.out (by decide))
                  replace h13 := Lib.hid (K15.block _ _ _ _ h13.out (by decide))
                  have P15 := Lib.hid (P14'.out.growH own15' g15 at15)
                  clear own15 own15' g15 at15 K15 P14' RH
                  obtain ⟨VA, vac, rfl, -, hvac, -⟩ := RT.of_owns P15.out.p
                  have r0 := World.cell?_of_row h12.out 0 _ rfl
                  have r4 := World.cell?_of_row h12.out 4 _ rfl
                  have r5 := World.cell?_of_row h12.out 5 _ rfl
                  have c44 := World.cell?_of_row P15.out.v4 4 (.slice VA k vac) rfl
                  obtain ⟨i0, hi, hz0, hz1, hz2⟩ := info_parts Tryz.infoPart
                  have P16 := Lib.hid (P15.out.later ((Below.refl _ w15').alloc (Nat.le_refl _) (.cells #[.string ⟨b.name.toArray⟩, .slice (some ⟨V12 + 1, 0, none⟩) 9 9, .slice R b.relocs.length c', .slice A b.data.length c] 63)))
                  go_wp2_with (at_builtin; refine Stop.mk ?_)
                  refine Stop.go ?_
                  refine wpList_append_any rfl (.tmp 168) (.tmp 177) 32 rfl w.heap.size 63 i0 _ 4 88 Tryz.underlying32 hi hz0 hz1 hz2 rfl (by omega) _ k pcs rfl P16.out.p (some ⟨w15'.heap.size, 0, none⟩) 1 1 [.string ⟨b.name.toArray⟩, .slice (some ⟨V12 + 1, 0, none⟩) 9 9, .slice R b.relocs.length c', .slice A b.data.length c] rfl (rc_newN rfl rfl) (List.all_eq_true.1 rfl) (by simp only [maxLen]; omega) (by omega) (by have := P15.out.b.size; simp; omega) ?_
                  intro v17 w17 own17 g17 at17
                  obtain ⟨VB, vbc, rfl, -, -, -⟩ := RT.of_owns own17
                  obtain ⟨w18, e18, P18, K17, -⟩ := P16.out.push own17 g17
                  have g4 := K17.block _ _ _ _ P16.out.v4 (by decide)
                  have c45 := World.cell?_of_row g4 4 (.slice VA k vac) rfl
                  have f45 := frozen_of_row _ (w.heap.size + 1 + 1) 4 _ _ g4
                  have eS := secSt_succ (at_ := atN m) hb
                  have hR' : Hid (Recs RPart w 4 (k + 1) (pcs ++ [.string ⟨b.name.toArray⟩, .slice (some ⟨V12 + 1, 0, none⟩) 9 9, .slice R b.relocs.length c', .slice A b.data.length c]) (m.bits.take (k + 1))) := Lib.hid (by
                    have e : m.bits.take (k + 1) = m.bits.take k ++ [b] := by rw [List.take_add_one, hb]; rfl
                    rw [e]
                    exact hR.out.push rfl ⟨_, _, _, _, _, _, _, _, _, rfl⟩)
                  rw [← ers.out, ← eS] at P18
                  replace P18 := Lib.hid P18
                  replace e18 := Lib.hid e18
                  clear own17 g17 at17 g4 K17 P15 P16 r0 r4 r5 c44 hR eS
                  go_wp2
                  rw [← e18.out]
                  go_roundw
                  case rel => exact ⟨k + 1, _, _, by omega, by go_num, P18, hR'⟩
                  case measure => simp [intOf]; omega
          --]R
        · obtain rfl : k = m.bits.length := by omega
          rw [List.take_length] at hR
          have hlen := secSt_len hb4 hok.out.bits (at_ := atN m) m.bits.length (Nat.le_refl _)
          obtain ⟨E0, hE0⟩ : ∃ E, secSt (atN m) m.bits m.bits.length = E := ⟨_, rfl⟩
          rw [hE0] at hP hlen
          have hl1 : E0.texts.length ≤ 100 := by omega
          have hl2 : E0.heads.length ≤ 160 := by omega
          have hl3 : E0.rest.length ≤ 280 := by omega
          replace hE0 := Lib.hid hE0
          clear hlen
          obtain ⟨-, TA, tc, rfl, -, htc, -⟩ := RB.of_owns hP.out.t
          obtain ⟨-, HA, hc, rfl, -, hhc, -⟩ := RB.of_owns hP.out.h
          obtain ⟨-, RA, rc, rfl, -, hrc, -⟩ := RB.of_owns hP.out.r
          have c18 := World.cell?_of_row hP.out.v1 8 (.slice s.S 0 s.sc) (by rw [← hmc]; unfold MadeS.cells; rw [hs.out]; rfl)
          have T0 := Lib.hid (hP.out.ts (by omega))
          have hwr := hP.out.b.size
          clear hP hnames
          have c47 := World.cell?_of_row T0.out.v4 7 _ rfl
          have f47 := frozen_of_row _ (w.heap.size + 1 + 1) 7 _ _ T0.out.v4
          go_wp2_with fail
          refine wp_loop_rounds 1 ?_
          rw [rounds_succ]
          go_upto_region 54 with fail
          have T1' := T0.out.set 7 (.slice TA E0.texts.length tc)
          obtain ⟨w1, e1⟩ : ∃ w', wr.setCell ⟨w.heap.size + 1 + 1, 7, none⟩ (.slice TA E0.texts.length tc) = w' := ⟨_, rfl⟩
          rw [e1] at T1' ⊢
          have T1 := Lib.hid T1'
          clear T1' T0 e1 c47 f47 c18
          have hBy := Lib.hid (specBytes_any false 4 (4 + E0.texts.length) (by omega) (by omega) w1)
          go_wp2_with fail
          refine hBy.out.mono ?_
          rintro e w2 ⟨⟨u, rfl, ownL⟩, b2⟩
          obtain ⟨-, AL, cL, rfl, RL, hcL, -⟩ := RB.of_owns ownL
          have T2 := Lib.hid (T1.out.later b2)
          replace RL := Lib.hid RL
          clear T1 hBy ownL b2
          go_wp2_with (at_builtin; refine Stop.mk ?_)
          refine Stop.go ?_
          refine wpList_append_bytes Tryz.underlying34 Tryz.infoByte rfl (.tmp 297) (.tmp 302) rfl w.heap.size _ _ E0.rest rfl T2.out.r AL _ cL (le 4 (4 + E0.texts.length)) rfl (by rw [le_len]) RL.out (by omega) T2.out.b.size ?_
          intro v3 w3' own3 g3 at3
          rw [show E0.rest.length + 4 = (E0.rest ++ le 4 (4 + E0.texts.length)).length by rw [List.length_append, le_len]] at own3
          have T3 := Lib.hid (T2.out.growR own3 g3 at3)
          clear T2 own3 g3 at3 RL
          obtain ⟨r2, er2⟩ : ∃ r2, E0.rest ++ le 4 (4 + E0.texts.length) = r2 := ⟨_, rfl⟩
          have hr2 : r2.length ≤ 290 := by rw [← er2, List.length_append, le_len]; omega
          rw [er2] at T3
          replace er2 := Lib.hid er2
          have RT3 : Hid (RB w3' TA E0.texts) := Lib.hid (by
            obtain ⟨-, A', c', e', R', -⟩ := RB.of_owns T3.out.t
            simp only [Value.slice.injEq, true_and] at e'
            obtain ⟨rfl, rfl⟩ := e'
            exact R')
          go_wp2_with (at_builtin; refine Stop.mk ?_)
          refine Stop.go ?_
          refine wpList_append_bytes Tryz.underlying34 Tryz.infoByte rfl (.tmp 303) (.tmp 304) rfl w.heap.size _ _ r2 rfl T3.out.r TA _ tc E0.texts rfl rfl RT3.out (by omega) T3.out.b.size ?_
          intro v4 w4 own4 g4 at4
          rw [← List.length_append] at own4
          have T4 := Lib.hid (T3.out.growR own4 g4 at4)
          clear T3 own4 g4 at4 RT3
          obtain ⟨r3, er3⟩ : ∃ r3, r2 ++ E0.texts = r3 := ⟨_, rfl⟩
          have hr3 : r3.length ≤ 390 := by rw [← er3, List.length_append]; omega
          rw [er3] at T4
          replace er3 := Lib.hid er3
          obtain ⟨-, RA4, rc4, rfl, -, hrc4, -⟩ := RB.of_owns T4.out.r
          have d0 := World.cell?_of_row T4.out.v1 0 (.int .i64 (m.stub : Int)) (by rw [← hmc]; rfl)
          have d1 := World.cell?_of_row T4.out.v1 1 (.int .u16 (m.machine : Int)) (by rw [← hmc]; rfl)
          have d2 := World.cell?_of_row T4.out.v1 2 (.int .u32 (m.time : Int)) (by rw [← hmc]; rfl)
          have d3 := World.cell?_of_row T4.out.v1 3 (.int .u16 (m.flags : Int)) (by rw [← hmc]; rfl)
          have d7 := World.cell?_of_row T4.out.v1 7 (.slice BB m.bits.length s.bc) (by rw [← hmc, ← hBB]; rfl)
          have c46 := World.cell?_of_row T4.out.v4 6 (.slice none 0 0) rfl
          have T5 := Lib.hid (T4.out.later ((Below.refl _ w4).alloc (Nat.le_refl _) (.cells #[.int .u64 (m.machine : Int), .int .u64 (m.bits.length : Int), .int .u64 (m.time : Int), .int .u64 ((atN m : Int) + (E0.rest.length : Int)), .int .u64 0, .int .u64 (m.opt.length : Int), .int .u64 (m.flags : Int)] 54)))
          have c40 := World.cell?_of_row T5.out.v4 0 (.slice none 0 0) rfl
          have f40 := frozen_of_row _ (w.heap.size + 1 + 1) 0 _ _ T5.out.v4
          have hma : m.machine ≤ 50000 := by
            have h := hok.out.mach
            simp only [machL, List.mem_cons, List.not_mem_nil, or_false] at h
            omega
          have hti := hok.out.time
          have hfl := hok.out.flags
          go_upto_region 56 with fail
          have T6' := T5.out.set 0 (.slice (some ⟨w4.heap.size, 0, none⟩) 7 7)
          obtain ⟨w6, e6⟩ : ∃ w', (w4.alloc (.cells #[.int .u64 (m.machine : Int), .int .u64 (m.bits.length : Int), .int .u64 (m.time : Int), .int .u64 ((atN m : Int) + (E0.rest.length : Int)), .int .u64 0, .int .u64 (m.opt.length : Int), .int .u64 (m.flags : Int)] 54)).setCell ⟨w.heap.size + 1 + 1, 0, none⟩ (.slice (some ⟨w4.heap.size, 0, none⟩) 7 7) = w' := ⟨_, rfl⟩
          have RH : Hid (RC w6 (some ⟨w4.heap.size, 0, none⟩) 1 7 ([m.machine, m.bits.length, m.time, atN m + E0.rest.length, 0, m.opt.length, m.flags].map uv)) := Lib.hid (by
            refine rc_of_row (T := 54) rfl ?_
            have hl4 := T4.out.b.size
            rw [← e6, ((Chg.refl (· = w.heap.size + 1 + 1) _).setCell ⟨w.heap.size + 1 + 1, 0, none⟩ _ (.inl rfl)).row (heap_alloc_new _ _) (by
              have := (Array.getElem?_eq_some_iff.1 T4.out.v4).1
              omega)]
            rw [List.map_cons, List.map_cons, List.map_cons, List.map_cons]
            simp only [uv, Int.natCast_add]
            rfl)
          rw [e6] at T6' ⊢
          have T6 := Lib.hid T6'
          clear T6' T5 T4 e6 c40 f40 c46 d0 d1 d2 d3 d7 
          have d0 := World.cell?_of_row T6.out.v1 0 (.int .i64 (m.stub : Int)) (by rw [← hmc]; rfl)
          have hV16 : w.heap.size < w6.heap.size := (Array.getElem?_eq_some_iff.1 T6.out.v1).1
          have o7 := Lib.hid (owns_new (w := w6) 5 (Nat.le_refl _))
          have b7 := Lib.hid ((Below.refl w6.heap.size w6).alloc (Nat.le_refl _) (.cells #[] 5))
          go_upto_if 333 with fail
          go_cut [24] from 331 to 350 (fun c24 wx => Hid (wx.ownsRow w6.heap.size 5 1 c24 (preB m).length ((preB m).map bv)) ∧ Hid (Below w6.heap.size w6 wx))
          case first =>
            --[E
            by_cases h0 : m.stub = 0
            · have h1 : ¬ 0 < m.stub := by omega
              have hpe : preB m = [] := by unfold preB; rw [if_pos h0]
              go_wp2_with fail
              go_meet
              case rel => exact ⟨Lib.hid (by rw [hpe]; exact o7.out), b7⟩
            · have h1 : 0 < m.stub := by omega
              have h64 : 64 ≤ m.stub := by omega
              obtain ⟨Z, hZ⟩ : ∃ Z, m.stub = Z := ⟨_, rfl⟩
              rw [hZ] at h1 h64 d0
              replace hZ := Lib.hid hZ
              have hZ127 : Z ≤ 127 := by have := hZ.out; omega
              have hmk := makeZeros Z (by omega)
              have hpe : Hid (preB m = stubB Z ++ [80, 69, 0, 0]) := Lib.hid (by unfold preB; rw [if_neg h0, hZ.out])
              go_upto_region 59 with fail
              obtain ⟨w8, e8⟩ : ∃ w', ((w6.alloc (.cells #[] 5)).alloc (.cells (Array.replicate Z (bv 0)) 5)) = w' := ⟨_, rfl⟩
              have h8 : w8.heap[w6.heap.size + 1]? = some (.cells ((List.replicate Z (0 : UInt8)).map bv).toArray 5 (0, 0)) := by
                have e : w6.heap.size + 1 = (w6.alloc (.cells #[] 5)).heap.size := by simp
                have e2 : (Array.replicate Z (bv 0)) = ((List.replicate Z (0 : UInt8)).map bv).toArray := by simp
                rw [e, ← e8, heap_alloc_new, e2]
              have b8 : Below w6.heap.size w6 w8 := by rw [← e8]; exact b7.out.alloc (by simp) _
              have hsl : ∀ W, (Instr.slice 34 (.slice (some ⟨w6.heap.size + 1, 0, none⟩) Z Z) (some (.int .i64 60)) none none).run Tryz.prog W = .ok (.slice (some ⟨w6.heap.size + 1, 60, none⟩) (Z - 60) (Z - 60)) W := fun W => by
                have h := run_slice_from (P := Tryz.prog) Tryz.underlying34 (info_parts Tryz.infoByte).choose_spec.1 (info_parts Tryz.infoByte).choose_spec.2.2.1 (some ⟨w6.heap.size + 1, 0, none⟩) Z Z 60 .i64 (by omega) W
                rw [slA_some _ _ _ _ (by omega)] at h
                simpa using h
              rw [e8]
              clear e8 o7 b7 hmk d0
              obtain ⟨g, eg⟩ : ∃ g, w6.heap.size + 1 = g := ⟨_, rfl⟩
              rw [eg] at h8 hsl ⊢
              have hz0 : ∀ j, j < Z → ((List.replicate Z (0 : UInt8)).map bv)[j]? = some (.int .u8 0) := by
                intro j hj
                rw [List.getElem?_map, List.getElem?_replicate, if_pos hj]
                rfl
              obtain ⟨L0, eL0⟩ : ∃ L, (List.replicate Z (0 : UInt8)).map bv = L := ⟨_, rfl⟩
              have hL0 : L0.length = Z := by rw [← eL0]; simp
              rw [eL0] at h8 hz0
              have s0 := World.cell?_of_row h8 0 _ (hz0 0 (by omega))
              have f0 := frozen_of_row _ g 0 _ _ h8
              have h9 := heap_setCell_same w8 g 0 _ _ (.int .u8 77) h8
              rw [List.setIfInBounds_toArray] at h9
              have s1 := World.cell?_of_row h9 1 (.int .u8 0) (by rw [List.getElem?_set_ne (by decide)]; exact hz0 1 (by omega))
              have f1 := frozen_of_row _ g 1 _ _ h9
              have h10 := heap_setCell_same _ g 1 _ _ (.int .u8 90) h9
              rw [List.setIfInBounds_toArray] at h10
              have C10 : Chg (· = g) w8 ((w8.setCell ⟨g, 0, none⟩ (.int .u8 77)).setCell ⟨g, 1, none⟩ (.int .u8 90)) := ((Chg.refl (· = g) w8).setCell ⟨g, 0, none⟩ _ (.inl rfl)).setCell ⟨g, 1, none⟩ _ (.inl rfl)
              have hZ2 : 2 ≤ Z := by omega
              replace h8 := Lib.hid h8
              replace h9 := Lib.hid h9
              replace h10 := Lib.hid h10
              replace C10 := Lib.hid C10
              replace eL0 := Lib.hid eL0
              replace hL0 := Lib.hid hL0
              clear hz0
              go_upto_region 60 with fail
              obtain ⟨w10, e10⟩ : ∃ w', (w8.setCell ⟨g, 0, none⟩ (.int .u8 77)).setCell ⟨g, 1, none⟩ (.int .u8 90) = w' := ⟨_, rfl⟩
              rw [e10] at h10 C10 ⊢
              have hw8 := b8.size
              have hw10 := C10.out.size
              have d0 : w10.cell? ⟨w.heap.size, 0, none⟩ = some (.int .i64 (Z : Int)) := by
                refine (C10.out.cell (p := ⟨w.heap.size, 0, none⟩) (by show w.heap.size < w8.heap.size; omega) (by show ¬ w.heap.size = g; omega)).trans ((b8.cell (p := ⟨w.heap.size, 0, none⟩) hV16).trans ?_)
                have h := World.cell?_of_row T6.out.v1 0 (.int .i64 (m.stub : Int)) (by rw [← hmc]; rfl)
                rw [hZ.out] at h
                exact h
              have hlt : w.heap.size < w10.heap.size := by omega
              obtain ⟨L1, eL1⟩ : ∃ L, (L0.set 0 (.int .u8 77)).set 1 (.int .u8 90) = L := ⟨_, rfl⟩
              rw [eL1] at h10
              have hL1 : Hid (L1.length = Z) := Lib.hid (by rw [← eL1]; simpa using hL0.out)
              have hrow : Hid (splice L1 60 (((le 4 Z).take (Z - 60)).map bv) = (stubB Z).map bv) := Lib.hid (by rw [← eL1, ← eL0.out]; exact stub_row Z h64)
              have hmin : Hid (0 < Nat.min 4 (Z - 60)) := Lib.hid (Nat.lt_min.2 ⟨by omega, by omega⟩)
              have hfit : Hid (60 + Nat.min 4 (Z - 60) ≤ L1.length) := Lib.hid (by
                rw [hL1.out]
                exact Nat.le_trans (Nat.add_le_add_left (Nat.min_le_right 4 (Z - 60)) 60) (by omega))
              have b10 := Lib.hid (b8.trans (C10.out.below hw8 (fun k hk e => by omega)))
              clear e10 eL1 h8 h9 C10 b8 s0 s1 f0 f1
              have hwz : IntKind.u64.wrap (Z : Int) = (Z : Int) := by rw [IntKind.wrap_u64]; omega
              have hBy : Hid (∀ W, Calls Tryz.prog 18 #[.bool false, .int .i64 4, .int .u64 Z] W fun e w' => (∃ u, e = .returned u ∧ w'.ownsRow W.heap.size 5 1 u 4 ((le 4 Z).map bv)) ∧ Below W.heap.size W w') := Lib.hid (fun W => specBytes_any false 4 Z (by omega) (by omega) W)
              go_region_held3 (fun w' => w'.cell? ⟨w.heap.size, 0, none⟩ = some (.int .i64 (Z : Int)))
                (first | exact d0 | exact K1.out | exact K2.out | go_keep)
                (first
                  | (go_at_call 18; refine (hBy.out _).mono ?_; rintro e w11 ⟨⟨u, rfl, own11⟩, b11'⟩; have b11 : Hid (Below w10.heap.size w10 w11) := Lib.hid (und b11'); obtain ⟨-, AL, cL, rfl, RL, hcL, -⟩ := RB.of_owns own11; replace RL := Lib.hid RL; have K1 : Hid (w11.cell? ⟨w.heap.size, 0, none⟩ = some (.int .i64 (Z : Int))) := Lib.hid ((b11.out.cell (p := ⟨w.heap.size, 0, none⟩) hlt).trans d0); have h11 := row_later b11.out h10; clear own11 b11')
                  | (refine step_copy_bytes (by rfl) (.tmp 342) (.tmp 346) 34 34 (by rfl) 5 Tryz.underlying34 Tryz.sizeByte g 60 (Z - 60) (Z - 60) AL 4 cL (by rfl) (by rfl) L1 5 h11 (le 4 Z) (le_len 4 Z) RL.out hmin.out hfit.out ?_; intro w12 h12 C12 z12; clear z12; have K2 : Hid (w12.cell? ⟨w.heap.size, 0, none⟩ = some (.int .i64 (Z : Int))) := Lib.hid ((C12.cell (p := ⟨w.heap.size, 0, none⟩) (Nat.lt_of_lt_of_le hlt b11.out.size) (by show ¬ w.heap.size = g; omega)).trans K1.out))
                  | fail)
              rw [hrow.out] at h12
              have hw11 := b11.out.size
              have b12 := Lib.hid ((b10.out.trans (b11.out.mono b10.out.size)).trans (C12.below (Nat.le_trans b10.out.size hw11) (fun k hk e => by omega)))
              have own12 := Lib.hid (owns_whole (base := w6.heap.size) (size := 1) (n := Z) h12.out (by omega) (by rw [List.length_map]; unfold stubB; simp [le_len]; omega) (by simp only [maxLen]; omega))
              have own12' := Lib.hid (owns_later own12.out ((Below.refl _ w12).alloc (Nat.le_refl _) (.cells #[.int .u8 80, .int .u8 69, .int .u8 0, .int .u8 0] 5)))
              have b13 := Lib.hid (b12.out.alloc b12.out.size (.cells #[.int .u8 80, .int .u8 69, .int .u8 0, .int .u8 0] 5))
              have R0 : Hid (RB (w12.alloc (.cells #[.int .u8 80, .int .u8 69, .int .u8 0, .int .u8 0] 5)) (some ⟨w12.heap.size, 0, none⟩) [80, 69, 0, 0]) := Lib.hid (RT.bytes (l := [80, 69, 0, 0]) (RT.new (vs := ([80, 69, 0, 0] : List UInt8).map bv) rfl))
              clear K1 K2 d0 h10 h11 h12 b10 b11 C12 own12 hrow hmin hfit hL1 RL
              go_wp2_with (at_builtin; refine Stop.mk ?_)
              refine Stop.go ?_
              refine wpList_append_bytes Tryz.underlying34 Tryz.infoByte rfl (.tmp 348) (.tmp 349) rfl w6.heap.size _ _ (stubB Z) rfl own12'.out (some ⟨w12.heap.size, 0, none⟩) 4 4 [80, 69, 0, 0] rfl rfl R0.out (by omega) (by have := b13.out.size; exact this) ?_
              intro v13 w13 own13 g13 at13
              have hZl : Z + 4 = (preB m).length := by rw [hpe.out]; unfold stubB; simp [le_len]; omega
              rw [← hpe.out, hZl] at own13
              have b14 := Lib.hid (b13.out.grown g13 b13.out.size (fun q hq => (own12'.out.lt q hq).1))
              replace own13 := Lib.hid own13
              clear g13 at13 b13 own12' R0 b12 hZl hpe
              go_wp2_with fail
              go_meet
              case rel => exact ⟨own13, b14⟩
            --]E
          case rest =>
            obtain ⟨ownF, bF⟩ := hcut
            have e3 := hx3.out
            subst e3
            obtain ⟨VP, cp, rfl, -, hcp, -⟩ := RT.of_owns T6.out.p
            obtain ⟨-, FA, fc, rfl, -, hfc, -⟩ := RB.of_owns ownF.out
            clear hx3 d0 o7 b7
            have T7 := Lib.hid (T6.out.later bF.out)
            have RH7 := Lib.hid (rc_later RH.out bF.out)
            have c40 := World.cell?_of_row T7.out.v4 0 (.slice (some ⟨w4.heap.size, 0, none⟩) 7 7) rfl
            have hV4 : w.heap.size + 1 + 1 < wc.heap.size := (Array.getElem?_eq_some_iff.1 T7.out.v4).1
            have hbnd : Hid (∀ v ∈ [m.machine, m.bits.length, m.time, atN m + E0.rest.length, 0, m.opt.length, m.flags], v ≤ 18446744073709551615) := Lib.hid (fun v hv => by
              simp only [List.mem_cons, List.not_mem_nil, or_false] at hv
              omega)
            have ehB : Hid (rowB [2, 2, 4, 4, 4, 2, 2] [m.machine, m.bits.length, m.time, atN m + E0.rest.length, 0, m.opt.length, m.flags] = hdrB m) := Lib.hid (by
              have e1 : (secE m).rest = E0.rest := by rw [← hE0.out]; rfl
              have e2 : (symE m).n = 0 := by
                show (symStL (secE m).texts m.syms m.syms.length).n = 0
                rw [hs.out]; rfl
              unfold hdrB placeN
              rw [e1, e2]
              simp [rowB, le])
            have hhB : Hid ((rowB [2, 2, 4, 4, 4, 2, 2] [m.machine, m.bits.length, m.time, atN m + E0.rest.length, 0, m.opt.length, m.flags]).length = 20) := Lib.hid (by rw [rowB_len]; decide)
            go_upto_region 62 with fail
            go_region_held3 (fun w' => w'.cell? ⟨w.heap.size + 1 + 1, 0, none⟩ = some (.slice (some ⟨w4.heap.size, 0, none⟩) 7 7))
              (first | exact c40 | exact K1.out | exact K2.out | exact K3.out | exact K4.out | exact K5.out | go_keep)
              (first
                | (go_at_call 21; refine (peHeader_any _).mono ?_; rintro e y1 ⟨⟨vw, rfl, RW⟩, b1'⟩; have b1'' : Below wc.heap.size wc y1 := und b1'; have b1 : Hid (Below w6.heap.size w6 y1) := Lib.hid (bF.out.trans (b1''.mono bF.out.size)); have T8 := Lib.hid (T6.out.later b1.out); have K1 : Hid (y1.cell? ⟨w.heap.size + 1 + 1, 0, none⟩ = some (.slice (some ⟨w4.heap.size, 0, none⟩) 7 7)) := Lib.hid (World.cell?_of_row T8.out.v4 0 _ rfl); have own1 := Lib.hid (owns_later ownF.out b1''); have RH8 := Lib.hid (rc_later RH7.out b1''); replace RW := Lib.hid RW; clear b1' b1'')
                | (go_at_call 12; refine (specRow_any vw (some ⟨w4.heap.size, 0, none⟩) 7 7 7 7 [2, 2, 4, 4, 4, 2, 2] [m.machine, m.bits.length, m.time, atN m + E0.rest.length, 0, m.opt.length, m.flags] _ widH cntH (by omega) (by omega) (by omega) hbnd RW RH8).mono ?_; rintro e y2 ⟨⟨vn, rfl, own2'⟩, b2'⟩; have b2 : Hid (Below w6.heap.size w6 y2) := Lib.hid (b1.out.trans (b2'.mono b1.out.size)); have T9 := Lib.hid (T6.out.later b2.out); have K2 : Hid (y2.cell? ⟨w.heap.size + 1 + 1, 0, none⟩ = some (.slice (some ⟨w4.heap.size, 0, none⟩) 7 7)) := Lib.hid (World.cell?_of_row T9.out.v4 0 _ rfl); have own2 := Lib.hid (owns_later own1.out b2'); obtain ⟨-, AN, cN, rfl, RN, -⟩ := RB.of_owns own2'.out; replace RN := Lib.hid RN; clear own2' b2')
                | (refine step_append_bytes Tryz.underlying34 Tryz.infoByte (by rfl) (.tmp 351) (.tmp 355) (by rfl) w6.heap.size _ _ (preB m) (by rfl) own2.out AN _ cN (rowB [2, 2, 4, 4, 4, 2, 2] [m.machine, m.bits.length, m.time, atN m + E0.rest.length, 0, m.opt.length, m.flags]) (by rfl) rfl RN.out (by rw [hhB.out]; omega) b2.out.size ?_; intro v3' y3 own3' g3 at3; have b3 := Lib.hid (b2.out.grown g3 b2.out.size (fun q hq => (own2.out.lt q hq).1)); have T10 := Lib.hid (T6.out.later b3.out); have K3 : Hid (y3.cell? ⟨w.heap.size + 1 + 1, 0, none⟩ = some (.slice (some ⟨w4.heap.size, 0, none⟩) 7 7)) := Lib.hid (World.cell?_of_row T10.out.v4 0 _ rfl); have own3 : Hid (y3.ownsRow w6.heap.size 5 1 v3' (preB m ++ hdrB m).length ((preB m ++ hdrB m).map bv)) := Lib.hid (by rw [List.length_append, ← ehB.out]; exact own3'); clear own3' g3 at3)
                | (refine step_append_bytes Tryz.underlying34 Tryz.infoByte (by rfl) (.tmp 356) (.tmp 357) (by rfl) w6.heap.size _ _ (preB m ++ hdrB m) (by rfl) own3.out O _ oc m.opt (by rfl) rfl (RB.of_slice T10.out.o) (by rw [List.length_append, hdrB_len]; omega) b3.out.size ?_; intro v4' y4 own4' g4 at4; have b4 := Lib.hid (b3.out.grown g4 b3.out.size (fun q hq => (own3.out.lt q hq).1)); have T11 := Lib.hid (T6.out.later b4.out); have K4 : Hid (y4.cell? ⟨w.heap.size + 1 + 1, 0, none⟩ = some (.slice (some ⟨w4.heap.size, 0, none⟩) 7 7)) := Lib.hid (World.cell?_of_row T11.out.v4 0 _ rfl); have own4 : Hid (y4.ownsRow w6.heap.size 5 1 v4' (preB m ++ hdrB m ++ m.opt).length ((preB m ++ hdrB m ++ m.opt).map bv)) := Lib.hid (by rw [List.length_append]; exact own4'); clear own4' g4 at4)
                | (refine step_append_bytes Tryz.underlying34 Tryz.infoByte (by rfl) (.tmp 358) (.tmp 359) (by rfl) w6.heap.size _ _ (preB m ++ hdrB m ++ m.opt) (by rfl) own4.out HA _ hc E0.heads (by rfl) rfl (RB.of_slice T11.out.h) (by rw [List.length_append, List.length_append, hdrB_len]; omega) b4.out.size ?_; intro v5' y5 own5' g5 at5; have b5 := Lib.hid (b4.out.grown g5 b4.out.size (fun q hq => (own4.out.lt q hq).1)); have T12 := Lib.hid (T6.out.later b5.out); have K5 : Hid (y5.cell? ⟨w.heap.size + 1 + 1, 0, none⟩ = some (.slice (some ⟨w4.heap.size, 0, none⟩) 7 7)) := Lib.hid (World.cell?_of_row T12.out.v4 0 _ rfl); have own5 : Hid (y5.ownsRow w6.heap.size 5 1 v5' (preB m ++ hdrB m ++ m.opt ++ E0.heads).length ((preB m ++ hdrB m ++ m.opt ++ E0.heads).map bv)) := Lib.hid (by rw [List.length_append]; exact own5'); clear own5' g5 at5)
                | fail)
            clear K1 K2 K3 K4 K5 T8 T9 T10 T11 RN RW own1 own2 own3 own4 b1 b2 b3 b4 RH8 c40
            go_upto_region 63 with fail
            have c8 : Hid ((fun w' => w'.cell? ⟨w.heap.size + 1 + 1, 0, none⟩ = some (.slice (some ⟨w4.heap.size, 0, none⟩) 7 7) ∧ w'.cell? ⟨w.heap.size + 1 + 1, 1, none⟩ = some (.int .i64 (K : Int)) ∧ w'.cell? ⟨w.heap.size + 1 + 1, 2, none⟩ = some (.slice s.N s.nums.length s.nc) ∧ w'.cell? ⟨w.heap.size + 1 + 1, 3, none⟩ = some (.slice X3 xn3 xc3) ∧ w'.cell? ⟨w.heap.size + 1 + 1, 4, none⟩ = some (.slice VP m.bits.length cp) ∧ w'.cell? ⟨w.heap.size + 1 + 1, 5, none⟩ = some (.slice none 0 0) ∧ w'.cell? ⟨w.heap.size + 1 + 1, 6, none⟩ = some (.slice none 0 0) ∧ w'.cell? ⟨w.heap.size + 1 + 1, 7, none⟩ = some (.slice TA E0.texts.length tc)) y5.drew) := Lib.hid ⟨World.cell?_of_row T12.out.v4 0 _ rfl, World.cell?_of_row T12.out.v4 1 _ rfl, World.cell?_of_row T12.out.v4 2 _ rfl, World.cell?_of_row T12.out.v4 3 _ rfl, World.cell?_of_row T12.out.v4 4 _ rfl, World.cell?_of_row T12.out.v4 5 _ rfl, World.cell?_of_row T12.out.v4 6 _ rfl, World.cell?_of_row T12.out.v4 7 _ rfl⟩
            go_region_held3 (fun w' => w'.cell? ⟨w.heap.size + 1 + 1, 0, none⟩ = some (.slice (some ⟨w4.heap.size, 0, none⟩) 7 7) ∧ w'.cell? ⟨w.heap.size + 1 + 1, 1, none⟩ = some (.int .i64 (K : Int)) ∧ w'.cell? ⟨w.heap.size + 1 + 1, 2, none⟩ = some (.slice s.N s.nums.length s.nc) ∧ w'.cell? ⟨w.heap.size + 1 + 1, 3, none⟩ = some (.slice X3 xn3 xc3) ∧ w'.cell? ⟨w.heap.size + 1 + 1, 4, none⟩ = some (.slice VP m.bits.length cp) ∧ w'.cell? ⟨w.heap.size + 1 + 1, 5, none⟩ = some (.slice none 0 0) ∧ w'.cell? ⟨w.heap.size + 1 + 1, 6, none⟩ = some (.slice none 0 0) ∧ w'.cell? ⟨w.heap.size + 1 + 1, 7, none⟩ = some (.slice TA E0.texts.length tc))
              (first | with_reducible exact c8.out | with_reducible exact K6.out | with_reducible exact ⟨World.cell?_of_row g4.out 0 _ rfl, World.cell?_of_row g4.out 1 _ rfl, World.cell?_of_row g4.out 2 _ rfl, World.cell?_of_row g4.out 3 _ rfl, World.cell?_of_row g4.out 4 _ rfl, World.cell?_of_row g4.out 5 _ rfl, World.cell?_of_row g4.out 6 _ rfl, World.cell?_of_row g4.out 7 _ rfl⟩ | go_keep)
              (first
                | (refine step_append_bytes Tryz.underlying34 Tryz.infoByte (by rfl) (.tmp 362) (.tmp 363) (by rfl) w6.heap.size _ _ (preB m ++ hdrB m ++ m.opt ++ E0.heads) (by rfl) own5.out.drew RA4 _ rc4 r3 (by rfl) rfl (RB.of_slice T12.out.r).drew (by rw [List.length_append, List.length_append, List.length_append, hdrB_len]; omega) b5.out.size ?_; intro v6' y6 own6' g6 at6; have b6 := Lib.hid (b5.out.drew.grown g6 b5.out.size (fun q hq => (own5.out.lt q hq).1)); have T13 := Lib.hid (T6.out.later b6.out); have K6 : Hid (((fun w' => w'.cell? ⟨w.heap.size + 1 + 1, 0, none⟩ = some (.slice (some ⟨w4.heap.size, 0, none⟩) 7 7) ∧ w'.cell? ⟨w.heap.size + 1 + 1, 1, none⟩ = some (.int .i64 (K : Int)) ∧ w'.cell? ⟨w.heap.size + 1 + 1, 2, none⟩ = some (.slice s.N s.nums.length s.nc) ∧ w'.cell? ⟨w.heap.size + 1 + 1, 3, none⟩ = some (.slice X3 xn3 xc3) ∧ w'.cell? ⟨w.heap.size + 1 + 1, 4, none⟩ = some (.slice VP m.bits.length cp) ∧ w'.cell? ⟨w.heap.size + 1 + 1, 5, none⟩ = some (.slice none 0 0) ∧ w'.cell? ⟨w.heap.size + 1 + 1, 6, none⟩ = some (.slice none 0 0) ∧ w'.cell? ⟨w.heap.size + 1 + 1, 7, none⟩ = some (.slice TA E0.texts.length tc))) y6) := Lib.hid ⟨World.cell?_of_row T13.out.v4 0 _ rfl, World.cell?_of_row T13.out.v4 1 _ rfl, World.cell?_of_row T13.out.v4 2 _ rfl, World.cell?_of_row T13.out.v4 3 _ rfl, World.cell?_of_row T13.out.v4 4 _ rfl, World.cell?_of_row T13.out.v4 5 _ rfl, World.cell?_of_row T13.out.v4 6 _ rfl, World.cell?_of_row T13.out.v4 7 _ rfl⟩; have own6 : Hid (y6.ownsRow w6.heap.size 5 1 v6' ((preB m ++ hdrB m ++ m.opt ++ E0.heads) ++ r3).length (((preB m ++ hdrB m ++ m.opt ++ E0.heads) ++ r3).map bv)) := Lib.hid (by rw [List.length_append]; exact own6'); clear own6' g6 at6; obtain ⟨cs2, h28', g2'⟩ := T13.out.v2; obtain ⟨q0, q1, q2, q3, q4, q5, q6, q7, rfl⟩ := name8 h28'; have g2 := Lib.hid g2'; clear h28' g2'; have e0 := World.cell?_of_row g2.out 0 q0 rfl; have z0 := frozen_of_row _ (w.heap.size + 1) 0 _ _ g2.out; have e1 := World.cell?_of_row g2.out 1 q1 rfl; have z1 := frozen_of_row _ (w.heap.size + 1) 1 _ _ g2.out; have e2 := World.cell?_of_row g2.out 2 q2 rfl; have z2 := frozen_of_row _ (w.heap.size + 1) 2 _ _ g2.out; have e3 := World.cell?_of_row g2.out 3 q3 rfl; have z3 := frozen_of_row _ (w.heap.size + 1) 3 _ _ g2.out; have e4 := World.cell?_of_row g2.out 4 q4 rfl; have z4 := frozen_of_row _ (w.heap.size + 1) 4 _ _ g2.out; have e5 := World.cell?_of_row g2.out 5 q5 rfl; have z5 := frozen_of_row _ (w.heap.size + 1) 5 _ _ g2.out; have e6 := World.cell?_of_row g2.out 6 q6 rfl; have z6 := frozen_of_row _ (w.heap.size + 1) 6 _ _ g2.out; have e7 := World.cell?_of_row g2.out 7 q7 rfl; have z7 := frozen_of_row _ (w.heap.size + 1) 7 _ _ g2.out; have g4 := Lib.hid ((chg8 (.slice (some ⟨w4.heap.size, 0, none⟩) 7 7) (.int .i64 (K : Int)) (.slice s.N s.nums.length s.nc) (.slice X3 xn3 xc3) (.slice VP m.bits.length cp) (.slice none 0 0) (.slice none 0 0) (.slice TA E0.texts.length tc) (w.heap.size + 1) y6).row T13.out.v4 (by omega)))
                | fail)
            have G := row8 (.slice (some ⟨w4.heap.size, 0, none⟩) 7 7) (.int .i64 (K : Int)) (.slice s.N s.nums.length s.nc) (.slice X3 xn3 xc3) (.slice VP m.bits.length cp) (.slice none 0 0) (.slice none 0 0) (.slice TA E0.texts.length tc) q0 q1 q2 q3 q4 q5 q6 q7 (w.heap.size + 1) y6 36 g2.out
            have C8 := chg8 (.slice (some ⟨w4.heap.size, 0, none⟩) 7 7) (.int .i64 (K : Int)) (.slice s.N s.nums.length s.nc) (.slice X3 xn3 xc3) (.slice VP m.bits.length cp) (.slice none 0 0) (.slice none 0 0) (.slice TA E0.texts.length tc) (w.heap.size + 1) y6
            obtain ⟨w9, e9⟩ : ∃ w', ((((((((y6.setCell ⟨w.heap.size + 1, 0, none⟩ (.slice (some ⟨w4.heap.size, 0, none⟩) 7 7)).setCell ⟨w.heap.size + 1, 1, none⟩ (.int .i64 (K : Int))).setCell ⟨w.heap.size + 1, 2, none⟩ (.slice s.N s.nums.length s.nc)).setCell ⟨w.heap.size + 1, 3, none⟩ (.slice X3 xn3 xc3)).setCell ⟨w.heap.size + 1, 4, none⟩ (.slice VP m.bits.length cp)).setCell ⟨w.heap.size + 1, 5, none⟩ (.slice none 0 0)).setCell ⟨w.heap.size + 1, 6, none⟩ (.slice none 0 0)).setCell ⟨w.heap.size + 1, 7, none⟩ (.slice TA E0.texts.length tc)) = w' := ⟨_, rfl⟩
            rw [e9] at G C8 ⊢
            have K9 : Keeps 36 y6 w9 := Keeps.of_chg C8 (fun k _ hk => ⟨([q0, q1, q2, q3, q4, q5, q6, q7] : List Value).toArray, (0, 0), by rw [hk]; exact g2.out⟩)
            have bw := Lib.hid (T13.out.b.trans ((C8.below (B := w.heap.size) T13.out.b.size (fun k hk e => by omega))))
            have own9 := owns_keeps T13.out.p K9 (by decide)
            obtain ⟨VP', cp', eP, RP, -⟩ := RT.of_owns own9
            simp only [Value.slice.injEq, true_and] at eP
            obtain ⟨rfl, rfl⟩ := eP
            replace RP := Lib.hid RP.rc
            have hn0 : Hid ((symE m).n = 0) := Lib.hid (by
              show (symStL (secE m).texts m.syms m.syms.length).n = 0
              rw [hs.out]; rfl)
            have eF : (preB m ++ hdrB m ++ m.opt ++ E0.heads) ++ r3 = fileB m := by
              have e1 : secE m = E0 := hE0.out
              have e2 : (symE m).rest = [] := by
                show (symStL (secE m).texts m.syms m.syms.length).rest = []
                rw [hs.out]; rfl
              have e3 : (symE m).texts = E0.texts := by
                show (symStL (secE m).texts m.syms m.syms.length).texts = _
                rw [hs.out, e1]; rfl
              unfold fileB tailB
              rw [e1, e2, e3, ← er3.out, ← er2.out]
              simp only [List.append_assoc, List.nil_append]
            have own10 := own6.out
            rw [eF] at own10
            obtain ⟨-, A6, c6, rfl, R6, hc6, -, hA6, -⟩ := RB.of_owns own10
            have R9 := Lib.hid (R6.chg C8 (fun a ha e => by
              have := (hA6 a ha).1
              have h6 : w.heap.size + 1 + 1 < w6.heap.size := (Array.getElem?_eq_some_iff.1 T6.out.v4).1
              have e' : a.block = w.heap.size + 1 := e
              omega))
            replace G := Lib.hid G
            have hR9 := Lib.hid (hR.out.mono (R := RPart) (w' := w9) (fun _ _ h => h))
            clear g2 g4 C8 e9 K9 own9 own10 own6 T13 T12 own5 b5 b6 K6 c8 eF R6 hA6 RH RH7 T6 T7 bF ownF e0 e1 e2 e3 e4 e5 e6 e7 z0 z1 z2 z4 z5 z6 z7
            go_wp2
            refine bodyPost_ret (results_cell_tmp rfl _ _ (w.heap.size + 1) 36 #[.slice (some ⟨w4.heap.size, 0, none⟩) 7 7, .int .i64 (K : Int), .slice s.N s.nums.length s.nc, .slice X3 xn3 xc3, .slice VP m.bits.length cp, .slice none 0 0, .slice none 0 0, .slice TA E0.texts.length tc] (0, 0) _ rfl G.out Tryz.underlying36 rfl (by kernel_rfl)) rfl ?_
            unfold PeOfQ
            rw [hn0.out]
            exact ⟨_, _, _, _, _, _, VP, cp, none, 0, A6, c6, pcs, rfl, hc6, R9, RP, hR9, bw.out, List.all_eq_true.1 rfl⟩
end Go.Proofs.YtbpebngjpecncaaGreatDoor
