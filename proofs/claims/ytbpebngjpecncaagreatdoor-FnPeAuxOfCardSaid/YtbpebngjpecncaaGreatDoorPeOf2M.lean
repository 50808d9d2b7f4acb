/-
  spec.PeOf where there are symbols and no sections. (Its head is printed by gen_peof2.py.)
-/
import Derived.Test.YtbpebngjpecncaaGreatDoorPeOf1
import Derived.Test.YtbpebngjpecncaaGreatDoorPeRegs
namespace Go.Proofs.YtbpebngjpecncaaGreatDoor
set_option linter.unusedVariables false
set_option linter.unusedSimpArgs false
set_option maxRecDepth 100000
open Go Go.RowKit
attribute [local go_sem ↓] Go.wp_at_zero Go.wp_at_succ
/-- The cells of a symbol that is to be made; how many records behind it. -/
theorem sym_cells {w : World} {s : MadeS} {m : MadeL} (hV : MadeV w s m) {SA XA : Option Addr} (hS : s.S = SA) (hX : s.X = XA) (k : Nat) (hk : k < m.syms.length) :
    ∃ g o g' o' y, SA = some ⟨g, o, none⟩ ∧ XA = some ⟨g', o', none⟩ ∧ m.syms[k]? = some y ∧ (y.value < 4294967296 ∧ -32768 ≤ y.sect ∧ y.sect < 32768 ∧ y.typ < 65536 ∧ y.cls < 256) ∧ w.cell? ⟨g, o + k * 5, none⟩ = some (.string ⟨y.name.toArray⟩) ∧ w.cell? ⟨g, o + k * 5 + 1, none⟩ = some (.int .u32 y.value) ∧
      w.cell? ⟨g, o + k * 5 + 2, none⟩ = some (.int .i16 y.sect) ∧ w.cell? ⟨g, o + k * 5 + 3, none⟩ = some (.int .u16 y.typ) ∧ w.cell? ⟨g, o + k * 5 + 4, none⟩ = some (.int .u8 y.cls) ∧ w.cell? ⟨g', o' + k, none⟩ = some (.int .i64 y.aux) := by
  obtain ⟨cs, y, hy, hl, ⟨rfl, hb⟩, hc⟩ := hV.srec.get hk
  have hat : ∀ j u, _ → ∃ g o, s.S = some ⟨g, o, none⟩ ∧ w.cell? ⟨g, o + (k * 5 + j), none⟩ = some u := fun j u h => hV.syms.at (hc j u h)
  obtain ⟨g, o, e0, q0⟩ := hat 0 _ rfl
  have hrest : ∀ j u, _ → w.cell? ⟨g, o + k * 5 + j, none⟩ = some u := fun j u h => by
    obtain ⟨g', o', e', q'⟩ := hat j u h
    rw [e0] at e'
    simp only [Option.some.injEq, Addr.mk.injEq, and_true] at e'
    obtain ⟨rfl, rfl⟩ := e'
    exact (Nat.add_assoc o (k * 5) j ▸ q')
  obtain ⟨g', o', e', q'⟩ := hV.aux.at (j := k) (u := .int .i64 y.aux) (by rw [List.getElem?_map, hy]; rfl)
  exact ⟨g, o, g', o', y, by rw [← hS, e0], by rw [← hX, e'], hy, hb, hrest 0 _ rfl, hrest 1 _ rfl, hrest 2 _ rfl, hrest 3 _ rfl, hrest 4 _ rfl, q'⟩

set_option maxHeartbeats 16000000 in
theorem peOf2_any (s : MadeS) (m : MadeL) (w : World) (hV : Hid (MadeV w s m)) (hok : Hid (MadeOk m)) (hs : Hid (m.bits.length = 0)) :
    Calls Tryz.prog 5 #[.agg (s.cells m).toArray] w (PeOfQ w m) := by
  obtain ⟨mc, hmc⟩ : ∃ mc, s.cells m = mc := ⟨_, rfl⟩
  obtain ⟨K, hK⟩ : ∃ K, s.kind = K := ⟨_, rfl⟩
  obtain ⟨BB, hBB⟩ : ∃ BB, s.B = BB := ⟨_, rfl⟩
  have e0 : Value.agg (s.cells m).toArray = .agg #[.int .i64 m.stub, .int .u16 m.machine, .int .u32 m.time, .int .u16 m.flags, .int .i64 K, .slice s.N s.nums.length s.nc, .slice s.D s.dirs.length s.dc, .slice BB m.bits.length s.bc, .slice s.S m.syms.length s.sc, .slice s.X m.syms.length s.xc] := by
    rw [← hK, ← hBB]; rfl
  rw [e0]
  clear e0
  have hK0 : K = 0 ∨ K = 32 ∨ K = 64 := by
    have h := hV.out.ov.kind
    rw [hK] at h
    rcases h with h | h | h
    · exact .inl h.1
    · exact .inr (.inl h.1)
    · exact .inr (.inr h.1)
  obtain ⟨w3, e3⟩ : ∃ w3, (((w.alloc (.cells #[.int .i64 m.stub, .int .u16 m.machine, .int .u32 m.time, .int .u16 m.flags, .int .i64 K, .slice s.N s.nums.length s.nc, .slice s.D s.dirs.length s.dc, .slice BB m.bits.length s.bc, .slice s.S m.syms.length s.sc, .slice s.X m.syms.length s.xc] 30)).alloc
    (.cells #[.slice none 0 0, .int .i64 0, .slice none 0 0, .slice none 0 0, .slice none 0 0, .slice none 0 0, .slice none 0 0, .slice none 0 0] 36)).alloc
    (.cells #[.slice none 0 0, .int .i64 K, .slice s.N s.nums.length s.nc, .slice none 0 0, .slice none 0 0, .slice none 0 0, .slice none 0 0, .slice none 0 0] 36)).alloc (.cells #[] 5) = w3 := ⟨_, rfl⟩
  have z3 : w3.heap.size = w.heap.size + 4 := by rw [← e3]; simp
  have b3 : Below w.heap.size w w3 := by rw [← e3]; exact ((((Below.refl _ w).alloc (Nat.le_refl _) _).alloc (by simp) _).alloc (by simp; omega) _).alloc (by simp; omega) _
  have g1 : Hid (w3.heap[w.heap.size]? = some (.cells mc.toArray 30 (0, 0))) := Lib.hid (by
    rw [← e3, heap_alloc_old _ _ (by simp; omega), heap_alloc_old _ _ (by simp; omega), heap_alloc_old _ _ (by simp), heap_alloc_new, ← hmc, ← hK, ← hBB]
    unfold MadeS.cells
    rfl)
  have g2 : Hid (w3.heap[w.heap.size + 1]? = some (.cells ([.slice none 0 0, .int .i64 0, .slice none 0 0, .slice none 0 0, .slice none 0 0, .slice none 0 0, .slice none 0 0, .slice none 0 0] : List Value).toArray 36 (0, 0))) := Lib.hid (by
    have : w.heap.size + 1 = (w.alloc (.cells #[.int .i64 m.stub, .int .u16 m.machine, .int .u32 m.time, .int .u16 m.flags, .int .i64 K, .slice s.N s.nums.length s.nc, .slice s.D s.dirs.length s.dc, .slice BB m.bits.length s.bc, .slice s.S m.syms.length s.sc, .slice s.X m.syms.length s.xc] 30)).heap.size := by simp
    rw [this, ← e3, heap_alloc_old _ _ (by simp), heap_alloc_old _ _ (by simp), heap_alloc_new])
  have g4 : Hid (w3.heap[w.heap.size + 1 + 1]? = some (.cells (([.slice none 0 0, .int .i64 K, .slice s.N s.nums.length s.nc, .slice none 0 0] : List Value) ++ ([.slice none 0 0, .slice none 0 0, .slice none 0 0, .slice none 0 0] : List Value)).toArray 36 (0, 0))) := Lib.hid (by
    have : w.heap.size + 1 + 1 = ((w.alloc (.cells #[.int .i64 m.stub, .int .u16 m.machine, .int .u32 m.time, .int .u16 m.flags, .int .i64 K, .slice s.N s.nums.length s.nc, .slice s.D s.dirs.length s.dc, .slice BB m.bits.length s.bc, .slice s.S m.syms.length s.sc, .slice s.X m.syms.length s.xc] 30)).alloc (.cells #[.slice none 0 0, .int .i64 0, .slice none 0 0, .slice none 0 0, .slice none 0 0, .slice none 0 0, .slice none 0 0, .slice none 0 0] 36)).heap.size := by simp
    rw [this, ← e3, heap_alloc_old _ _ (by simp), heap_alloc_new]
    rfl)
  have o5 : Hid (w3.ownsRow w.heap.size 5 1 (.slice (some ⟨w.heap.size + 1 + 1 + 1, 0, none⟩) 0 0) 0 (([] : List UInt8).map bv)) := Lib.hid (by
    have : w.heap.size + 1 + 1 + 1 = (((w.alloc (.cells #[.int .i64 m.stub, .int .u16 m.machine, .int .u32 m.time, .int .u16 m.flags, .int .i64 K, .slice s.N s.nums.length s.nc, .slice s.D s.dirs.length s.dc, .slice BB m.bits.length s.bc, .slice s.S m.syms.length s.sc, .slice s.X m.syms.length s.xc] 30)).alloc
    (.cells #[.slice none 0 0, .int .i64 0, .slice none 0 0, .slice none 0 0, .slice none 0 0, .slice none 0 0, .slice none 0 0, .slice none 0 0] 36)).alloc
    (.cells #[.slice none 0 0, .int .i64 K, .slice s.N s.nums.length s.nc, .slice none 0 0, .slice none 0 0, .slice none 0 0, .slice none 0 0, .slice none 0 0] 36)).heap.size := by simp
    rw [this, ← e3]
    exact owns_new _ (by simp; omega))
  replace b3 := Lib.hid b3
  replace e3 := Lib.hid e3
  go_enter Tryz.func5, Tryz.ntmps5
  go_upto_if 33 with fail
  rw [e3.out]
  clear e3
  go_cut [5] from 25 to 58 (fun c5 wx => ∃ X3 xn3 xc3, Hid (PS w wx w.heap.size (w.heap.size + 1) (w.heap.size + 1 + 1) mc [.slice none 0 0, .int .i64 K, .slice s.N s.nums.length s.nc, .slice X3 xn3 xc3] m.opt c5 [] [] [] (.slice none 0 0) (.slice none 0 0) (.slice none 0 0) 0 0 0 (.slice none 0 0) (.slice none 0 0) (.slice none 0 0) [] [] []))
  case first =>
    --[A
    rcases hK0 with rfl | rfl | rfl
    · go_wp2_with fail
      go_meet
      case rel =>
        have hop : m.opt = [] := by rw [hV.out.opt, hK]; rfl
        rw [hop]
        exact ⟨none, 0, 0, Lib.hid (PS.start o5.out g1.out ⟨_, rfl, g2.out⟩ g4.out b3.out (Nat.le_refl _) (by omega) (by omega) rfl)⟩
    · have hlen : Hid (s.nums.length = 30) := Lib.hid (by
        have h := hV.out.ov.kind
        rw [hK] at h
        rcases h with h | h | h <;> first | exact h.2.1 | exact absurd h.1 (by decide))
      have hn100 : s.nums.length ≤ 100 := by have := hlen.out; omega
      have hop : m.opt = rowB optW32 s.nums ++ rowB (List.replicate s.dirs.length 4) s.dirs := by rw [hV.out.opt, hK]; rfl
      have hd32 : s.dirs.length ≤ 32 := by
        obtain ⟨k, hk, hd, -⟩ := hV.out.ov.last (by rw [hK]; decide)
        omega
      have c4 := World.cell?_of_row g1.out 4 (.int .i64 (32 : Int)) (by rw [← hmc]; unfold MadeS.cells; rw [hK]; rfl)
      have c5 := World.cell?_of_row g1.out 5 (.slice s.N s.nums.length s.nc) (by rw [← hmc]; rfl)
      have c6 := World.cell?_of_row g1.out 6 (.slice s.D s.dirs.length s.dc) (by rw [← hmc]; rfl)
      have hN3 := Lib.hid (rc_later hV.out.nums.rc b3.out)
      have hD3 := Lib.hid (rc_later hV.out.dirs.rc b3.out)
      have hnb := Lib.hid hV.out.ov.bnd
      have hdb := Lib.hid hV.out.ov.bdd
      have hnc := hV.out.nc
      have hdc := hV.out.dc
      have hl1 : Hid ((rowB optW32 s.nums).length = 96) := Lib.hid (by rw [rowB_len]; decide)
      have hl2 : Hid ((rowB (List.replicate s.dirs.length 4) s.dirs).length = 4 * s.dirs.length) := Lib.hid (by rw [rowB_len, width_four])
      have hfo : Hid (widthsOk (List.replicate s.dirs.length 4)) := Lib.hid (fun k x h => .inl (by
        have := List.mem_of_getElem? h
        rw [List.mem_replicate] at this
        obtain ⟨-, rfl⟩ := this
        omega))
      have hcf : Hid (cntW (List.replicate s.dirs.length 4) ≤ s.dirs.length) := Lib.hid (Nat.le_of_eq (cnt_four _))
      have hcn : Hid (cntW optW32 ≤ s.nums.length) := Lib.hid (by rw [hlen.out, cnt32]; exact Nat.le_refl _)
      have hV1 : w.heap.size < w3.heap.size := by omega
      go_upto_region 4 with fail
      refine peOf_r4_32 (V1 := w.heap.size) (nums := s.nums) (dirs := s.dirs) c4 (by rw [← hlen.out]; exact c5) c6 hV1 (by rw [← hlen.out]; exact hN3) hD3 hlen (by rw [← hlen.out]; exact hnc) hdc hd32 hnb hdb ?_
      intro t34 t35 t36 t37 t38 t39 t40 t41 t42 t43 t44 t45 t46 t47 t48 t5 w8 own9' b38'
      have b38 := Lib.hid b38'
      have own9 : Hid (w8.ownsRow w.heap.size 5 1 t5 m.opt.length (m.opt.map bv)) := Lib.hid (by rw [hop]; exact owns_mono own9' b3.out.size)
      clear own9' b38'
      have c6' := (b38.out.cell (p := ⟨w.heap.size, 6, none⟩) hV1).trans c6
      have hD8 := Lib.hid (rc_later hD3.out b38.out)
      have g18 := row_later b38.out g1
      have g28 := row_later b38.out g2
      have g48 := row_later b38.out g4
      have z8 := b38.out.size
      have b08 := Lib.hid (b3.out.trans (b38.out.mono b3.out.size))
      clear c4 c5 c6 hN3 hD3 b38 hcn hcf hfo hl1 hl2 hnb hdb
      have hq : IntKind.i64.wrap (32 - (s.dirs.length : Int)) = ((32 - s.dirs.length : Nat) : Int) := by
        rw [IntWalk.i64_in _ (by omega)]
        omega
      obtain ⟨i0, hi, hz0, hz1, hz2⟩ := info_parts Tryz.info64
      have hV8 : w.heap.size < w8.heap.size := by omega
      go_upto_region 5 with fail
      refine peOf_r5 (V1 := w.heap.size) (V4 := w.heap.size + 1 + 1) c6' hD8 g48 ⟨_, rfl⟩ (by omega) hV8 hd32 ?_
      intro t49 t50 t51 t52 t53 t54 t55 t56 t57 t58 w10 A10 n10 c10 b810'
      have b810 := Lib.hid b810'
      have g410 := row_later b810.out g48
      have C11 := Lib.hid ((Chg.refl (· = w.heap.size + 1 + 1) w10).setCell ⟨w.heap.size + 1 + 1, 3, none⟩ (.slice A10 n10 c10) (.inl rfl))
      clear b810'
      have g411 := Lib.hid (heap_setCell_same w10 (w.heap.size + 1 + 1) 3 _ _ (.slice A10 n10 c10) g410.out)
      have b811 := Lib.hid (C11.out.below (B := w.heap.size) (by have := b810.out.size; omega) (fun k hk e => by omega))
      go_wp2_with fail
      go_meet
      case rel =>
        have KK := keeps_set (i := 3) (x := .slice A10 n10 c10) g410.out
        have hz := b3.out.size
        exact ⟨A10, n10, c10, Lib.hid (PS.start (owns_keeps (owns_later own9.out b810.out) KK (by decide)) (C11.out.row (row_later b810.out g18).out (by omega)) ⟨_, rfl, C11.out.row (row_later b810.out g28).out (by omega)⟩ (by simpa using g411.out) ((b08.out.trans (b810.out.mono (by omega))).trans b811.out) (Nat.le_refl _) (by omega) (by omega) rfl)⟩
    · have hlen : Hid (s.nums.length = 29) := Lib.hid (by
        have h := hV.out.ov.kind
        rw [hK] at h
        rcases h with h | h | h <;> first | exact h.2.1 | exact absurd h.1 (by decide))
      have hn100 : s.nums.length ≤ 100 := by have := hlen.out; omega
      have hop : m.opt = rowB optW64 s.nums ++ rowB (List.replicate s.dirs.length 4) s.dirs := by rw [hV.out.opt, hK]; rfl
      have hd32 : s.dirs.length ≤ 32 := by
        obtain ⟨k, hk, hd, -⟩ := hV.out.ov.last (by rw [hK]; decide)
        omega
      have c4 := World.cell?_of_row g1.out 4 (.int .i64 (64 : Int)) (by rw [← hmc]; unfold MadeS.cells; rw [hK]; rfl)
      have c5 := World.cell?_of_row g1.out 5 (.slice s.N s.nums.length s.nc) (by rw [← hmc]; rfl)
      have c6 := World.cell?_of_row g1.out 6 (.slice s.D s.dirs.length s.dc) (by rw [← hmc]; rfl)
      have hN3 := Lib.hid (rc_later hV.out.nums.rc b3.out)
      have hD3 := Lib.hid (rc_later hV.out.dirs.rc b3.out)
      have hnb := Lib.hid hV.out.ov.bnd
      have hdb := Lib.hid hV.out.ov.bdd
      have hnc := hV.out.nc
      have hdc := hV.out.dc
      have hl1 : Hid ((rowB optW64 s.nums).length = 112) := Lib.hid (by rw [rowB_len]; decide)
      have hl2 : Hid ((rowB (List.replicate s.dirs.length 4) s.dirs).length = 4 * s.dirs.length) := Lib.hid (by rw [rowB_len, width_four])
      have hfo : Hid (widthsOk (List.replicate s.dirs.length 4)) := Lib.hid (fun k x h => .inl (by
        have := List.mem_of_getElem? h
        rw [List.mem_replicate] at this
        obtain ⟨-, rfl⟩ := this
        omega))
      have hcf : Hid (cntW (List.replicate s.dirs.length 4) ≤ s.dirs.length) := Lib.hid (Nat.le_of_eq (cnt_four _))
      have hcn : Hid (cntW optW64 ≤ s.nums.length) := Lib.hid (by rw [hlen.out, cnt64]; exact Nat.le_refl _)
      have hV1 : w.heap.size < w3.heap.size := by omega
      go_upto_region 4 with fail
      refine peOf_r4_64 (V1 := w.heap.size) (nums := s.nums) (dirs := s.dirs) c4 (by rw [← hlen.out]; exact c5) c6 hV1 (by rw [← hlen.out]; exact hN3) hD3 hlen (by rw [← hlen.out]; exact hnc) hdc hd32 hnb hdb ?_
      intro t34 t35 t36 t37 t38 t39 t40 t41 t42 t43 t44 t45 t46 t47 t48 t5 w8 own9' b38'
      have b38 := Lib.hid b38'
      have own9 : Hid (w8.ownsRow w.heap.size 5 1 t5 m.opt.length (m.opt.map bv)) := Lib.hid (by rw [hop]; exact owns_mono own9' b3.out.size)
      clear own9' b38'
      have c6' := (b38.out.cell (p := ⟨w.heap.size, 6, none⟩) hV1).trans c6
      have hD8 := Lib.hid (rc_later hD3.out b38.out)
      have g18 := row_later b38.out g1
      have g28 := row_later b38.out g2
      have g48 := row_later b38.out g4
      have z8 := b38.out.size
      have b08 := Lib.hid (b3.out.trans (b38.out.mono b3.out.size))
      clear c4 c5 c6 hN3 hD3 b38 hcn hcf hfo hl1 hl2 hnb hdb
      have hq : IntKind.i64.wrap (32 - (s.dirs.length : Int)) = ((32 - s.dirs.length : Nat) : Int) := by
        rw [IntWalk.i64_in _ (by omega)]
        omega
      obtain ⟨i0, hi, hz0, hz1, hz2⟩ := info_parts Tryz.info64
      have hV8 : w.heap.size < w8.heap.size := by omega
      go_upto_region 5 with fail
      refine peOf_r5 (V1 := w.heap.size) (V4 := w.heap.size + 1 + 1) c6' hD8 g48 ⟨_, rfl⟩ (by omega) hV8 hd32 ?_
      intro t49 t50 t51 t52 t53 t54 t55 t56 t57 t58 w10 A10 n10 c10 b810'
      have b810 := Lib.hid b810'
      have g410 := row_later b810.out g48
      have C11 := Lib.hid ((Chg.refl (· = w.heap.size + 1 + 1) w10).setCell ⟨w.heap.size + 1 + 1, 3, none⟩ (.slice A10 n10 c10) (.inl rfl))
      clear b810'
      have g411 := Lib.hid (heap_setCell_same w10 (w.heap.size + 1 + 1) 3 _ _ (.slice A10 n10 c10) g410.out)
      have b811 := Lib.hid (C11.out.below (B := w.heap.size) (by have := b810.out.size; omega) (fun k hk e => by omega))
      go_wp2_with fail
      go_meet
      case rel =>
        have KK := keeps_set (i := 3) (x := .slice A10 n10 c10) g410.out
        have hz := b3.out.size
        exact ⟨A10, n10, c10, Lib.hid (PS.start (owns_keeps (owns_later own9.out b810.out) KK (by decide)) (C11.out.row (row_later b810.out g18).out (by omega)) ⟨_, rfl, C11.out.row (row_later b810.out g28).out (by omega)⟩ (by simpa using g411.out) ((b08.out.trans (b810.out.mono (by omega))).trans b811.out) (Nat.le_refl _) (by omega) (by omega) rfl)⟩
    --]A
  case rest =>
    obtain ⟨X3, xn3, xc3, hcut⟩ := hcut
    obtain ⟨x3, hx3⟩ : ∃ x3, x3 = Value.slice X3 xn3 xc3 := ⟨_, rfl⟩
    rw [← hx3] at hcut
    replace hx3 := Lib.hid hx3
    have c10 := World.cell?_of_row hcut.out.v1 0 (.int .i64 (m.stub : Int)) (by rw [← hmc]; rfl)
    have c17 := World.cell?_of_row hcut.out.v1 7 (.slice BB m.bits.length s.bc) (by rw [← hmc, ← hBB]; rfl)
    have hstub := hok.out.stub
    have hb4 := hok.out.b4
    have hopl : m.opt.length ≤ 240 := by rw [hV.out.opt]; exact hV.out.ov.len
    obtain ⟨O, oc, rfl, hOB, hoc⟩ : ∃ O oc, u5 = .slice O m.opt.length oc ∧ Hid (RB wc O m.opt) ∧ m.opt.length ≤ oc := by
      obtain ⟨-, O, oc, e, h, hc, -⟩ := RB.of_owns hcut.out.o
      exact ⟨O, oc, e, Lib.hid h, hc⟩
    go_upto_if 61 with fail
    go_cut [6] from 59 to 64 (fun c6 wx => c6 = .int .i64 ((preB m).length : Int) ∧ wx = wc)
    case first =>
      --[B
      by_cases h0 : m.stub = 0
      · have h1 : ¬ 0 < m.stub := by omega
        go_wp2_with fail
        go_meet
        case rel => exact ⟨by rw [preB_len (hok.out.stub), if_pos h0]; rfl, rfl⟩
      · have h1 : 0 < m.stub := by omega
        go_wp2_with fail
        go_meet
        case rel => exact ⟨by rw [preB_len (hok.out.stub), if_neg h0]; go_num, rfl⟩
      --]B
    case rest =>
      obtain ⟨rfl, rfl⟩ := hcut
      have hpl : (preB m).length ≤ 131 := by
        rw [preB_len (hok.out.stub)]
        split <;> omega
      obtain ⟨w13, e13⟩ : ∃ w13, ((wc.alloc (.cells #[] 5)).alloc (.cells #[] 5)).alloc (.cells #[] 5) = w13 := ⟨_, rfl⟩
      obtain ⟨P13, b13, z13⟩ := hcut.out.rows e13.symm
      have c17' := World.cell?_of_row P13.v1 7 (.slice BB m.bits.length s.bc) (by rw [← hmc, ← hBB]; rfl)
      rw [← e13] at c17'
      have hOB13 := Lib.hid (hOB.out.later b13)
      have hat : Hid (atN m = (preB m).length + 20 + m.opt.length + 40 * m.bits.length) := Lib.hid rfl
      replace P13 := Lib.hid P13
      replace b13 := Lib.hid b13
      replace e13 := Lib.hid e13
      go_wp2_with fail
      rw [e13.out]
      have eat : (((preB m).length : Int) + 20 + (m.opt.length : Int) + 40 * (m.bits.length : Int)) = (atN m : Int) := by rw [hat.out]; omega
      have hnames := Lib.hid (bit_cells hV.out hBB)
      rw [eat]
      clear eat
      have hatb : atN m ≤ 1000 := by rw [hat.out]; omega
      go_loopw [8, 9, 10, 81] (fun vt vh vr i wr => ∃ (k : Nat) (vp : Value) (pcs : List Value), k ≤ m.bits.length ∧ i = .int .i64 k ∧
        Hid (PS w wr w.heap.size (w.heap.size + 1) (w.heap.size + 1 + 1) mc [.slice none 0 0, .int .i64 K, .slice s.N s.nums.length s.nc, x3] m.opt (.slice O m.opt.length oc) (secSt (atN m) m.bits k).texts (secSt (atN m) m.bits k).heads (secSt (atN m) m.bits k).rest vt vh vr k 0 0 vp (.slice none 0 0) (.slice none 0 0) pcs [] []) ∧
        Hid (Recs RPart w 4 k pcs (m.bits.take k))) (fun _ _ _ i _ => m.bits.length - (intOf i).toNat)
      case atStart => exact ⟨0, .slice none 0 0, [], Nat.zero_le _, rfl, P13, Lib.hid (Recs.nil _ _ _)⟩
      case round =>
        obtain ⟨k, vp, pcs, hk, rfl, hP, hR⟩ := hrel
        by_cases hkn : k < m.bits.length
        ·
          exact absurd hkn (by have := hs.out; omega)
        · obtain rfl : k = m.bits.length := by omega
          rw [List.take_length] at hR
          have hlen := secSt_len hb4 hok.out.bits (at_ := atN m) m.bits.length (Nat.le_refl _)
          obtain ⟨E0, hE0⟩ : ∃ E, secSt (atN m) m.bits m.bits.length = E := ⟨_, rfl⟩
          rw [hE0] at hP hlen
          have hl1 : E0.texts.length ≤ 100 := by omega
          have hl2 : E0.heads.length ≤ 160 := by omega
          have hl3 : E0.rest.length ≤ 280 := by omega
          replace hE0 := Lib.hid hE0
          clear hlen
          obtain ⟨-, TA, tc, rfl, -, htc, -⟩ := RB.of_owns hP.out.t
          obtain ⟨-, HA, hc, rfl, -, hhc, -⟩ := RB.of_owns hP.out.h
          obtain ⟨-, RA, rc, rfl, -, hrc, -⟩ := RB.of_owns hP.out.r
          have hE00 : Hid (E0.texts = [] ∧ E0.heads = [] ∧ E0.rest = []) := Lib.hid (by rw [← hE0.out, hs.out]; exact ⟨rfl, rfl, rfl⟩)
          have c18 := World.cell?_of_row hP.out.v1 8 (.slice s.S m.syms.length s.sc) (by rw [← hmc]; rfl)
          have hwr := hP.out.b.size
          clear hnames
          obtain ⟨SA, hSA⟩ : ∃ A, s.S = A := ⟨_, rfl⟩
          obtain ⟨XA, hXA⟩ : ∃ A, s.X = A := ⟨_, rfl⟩
          rw [hSA] at c18
          have hnames2 := Lib.hid (sym_cells hV.out hSA hXA)
          replace hSA := Lib.hid hSA
          replace hXA := Lib.hid hXA
          go_wp2_with fail
          go_loopw [8, 10, 188] (fun vt' vr' i wx => ∃ (k : Nat) (vs vc : Value) (scs ccs : List Value), k ≤ m.syms.length ∧ i = .int .i64 k ∧
            Hid (PS w wx w.heap.size (w.heap.size + 1) (w.heap.size + 1 + 1) mc [.slice none 0 0, .int .i64 K, .slice s.N s.nums.length s.nc, x3] m.opt (.slice O m.opt.length oc) (symStL E0.texts m.syms k).texts E0.heads (E0.rest ++ (symStL E0.texts m.syms k).rest) vt' (.slice HA E0.heads.length hc) vr' m.bits.length k (symStL E0.texts m.syms k).n vp vs vc pcs scs ccs)) (fun _ _ i _ => m.syms.length - (intOf i).toNat)
          case atStart => exact ⟨0, .slice none 0 0, .slice none 0 0, [], [], Nat.zero_le _, rfl, by simpa [symStL] using hP⟩
          case round =>
            obtain ⟨k, vs, vc, scs, ccs, hk, rfl, hP⟩ := hrel
            by_cases hkn : k < m.syms.length
            · 
              --[S
              obtain ⟨g, o, g', o', y, rfl, rfl, hy, ⟨y1, y2, y3, y4, y5⟩, q0, q1, q2, q3, q4, q5⟩ := hnames2.out k hkn
              have hbw := hP.out.b
              have hP0' := hbw.size
              replace q0 := (hbw.cell (p := ⟨g, o + k * 5, none⟩) (World.block_lt_of_cell? w _ q0)).trans q0
              replace q1 := (hbw.cell (p := ⟨g, o + k * 5 + 1, none⟩) (World.block_lt_of_cell? w _ q1)).trans q1
              replace q2 := (hbw.cell (p := ⟨g, o + k * 5 + 2, none⟩) (World.block_lt_of_cell? w _ q2)).trans q2
              replace q3 := (hbw.cell (p := ⟨g, o + k * 5 + 3, none⟩) (World.block_lt_of_cell? w _ q3)).trans q3
              replace q4 := (hbw.cell (p := ⟨g, o + k * 5 + 4, none⟩) (World.block_lt_of_cell? w _ q4)).trans q4
              go_upto_region 36 with fail
              obtain ⟨w14, e14⟩ : ∃ w', wr.alloc (.cells #[.string ⟨y.name.toArray⟩, .int .u32 y.value, .int .i16 y.sect, .int .u16 y.typ, .int .u8 y.cls] 45) = w' := ⟨_, rfl⟩
              have g12 : Hid (w14.heap[wr.heap.size]? = some (.cells #[.string ⟨y.name.toArray⟩, .int .u32 y.value, .int .i16 y.sect, .int .u16 y.typ, .int .u8 y.cls] 45 (0, 0))) := Lib.hid (by rw [← e14]; exact heap_alloc_new wr _)
              have z14 : w14.heap.size = wr.heap.size + 1 := by rw [← e14]; simp
              have bl14 : Below wr.heap.size wr w14 := by rw [← e14]; exact (Below.refl _ wr).alloc (Nat.le_refl _) _
              have P14 := Lib.hid (hP.out.later bl14)
              have hvs : Hid (∀ q, vs.ownBlock = some q → q < wr.heap.size) := Lib.hid (fun q hq => (owns_lt hP.out.s q hq).2)
              have hvt : Hid (∀ q, u8.ownBlock = some q → q < wr.heap.size) := Lib.hid (fun q hq => (owns_lt hP.out.t q hq).2)
              have hvr : Hid (∀ q, u10.ownBlock = some q → q < wr.heap.size) := Lib.hid (fun q hq => (owns_lt hP.out.r q hq).2)
              clear bl14
              rw [e14]
              clear e14 hP q0 q1 q2 q3 q4 hbw
              have hV0 : w.heap.size ≤ wr.heap.size := hP0'
              obtain ⟨V12, eV⟩ : ∃ V, wr.heap.size = V := ⟨_, rfl⟩
              rw [eV] at hV0 hvs hvt hvr
              rw [eV] at g12 z14
              rw [eV]
              clear eV hP0'
              obtain ⟨Sk, hSk⟩ : ∃ S, symStL E0.texts m.syms k = S := ⟨_, rfl⟩
              have hyo := hok.out.syms y (List.mem_of_getElem? hy)
              have hn20 := hyo.n20
              have hax2 := hyo.aux
              have hs6 := hok.out.s6
              have hlen := symSt_len' (t0 := E0.texts) hok.out.syms k (by omega)
              rw [hSk] at hlen P14
              obtain ⟨hlt, hlr, hln⟩ := hlen
              have htx0 : E0.texts.length = 0 := by rw [hE00.out.1]; rfl
              have hrs0 : E0.rest.length = 0 := by rw [hE00.out.2.2]; rfl
              replace hSk := Lib.hid hSk
              obtain ⟨rk, erk⟩ : ∃ r, E0.rest ++ Sk.rest = r := ⟨_, rfl⟩
              have hrk : rk.length ≤ 324 := by rw [← erk, List.length_append]; omega
              rw [erk] at P14
              replace erk := Lib.hid erk
              have htk : Sk.texts.length ≤ 126 := by omega
              have hk6 : k < 6 := by omega
              clear hlt hlr htx0 hrs0 hyo
              obtain ⟨iB, hi, hz0, hz1, hz2⟩ := info_parts Tryz.infoByte
              obtain ⟨G, eG⟩ : ∃ G, w14.heap.size = G := ⟨_, rfl⟩
              rw [eG] at z14
              replace z14 := Lib.hid z14
              go_upto_region 37 with (refine wpList_make_full _ rfl (.const (.int .i64 8)) (.const (.int .i64 8)) 34 rfl G 5 iB (.int .u8 0) 1 Tryz.underlying34 hi hz0 hz1 .i64 .i64 8 8 8 rfl rfl rfl rfl (by rw [hz2]; decide) (by decide) (Nat.le_of_eq eG.symm) ?_; rw [eG]; intro w16 own16 g16)
              have e8 : (madeCells (Value.int .u8 0).cells (8 * 1)).toList = (List.replicate 8 (0 : UInt8)).map bv := by kernel_rfl
              rw [e8] at own16
              have b16 : Below w14.heap.size w14 w16 := ⟨g16.os, g16.tape, g16.output, g16.size, fun q hq => g16.block q hq (fun e => nomatch e)⟩
              have P16 := Lib.hid (P14.out.later b16)
              have g14 := g12
              replace g12 := row_later b16 g12
              replace own16 := Lib.hid own16
              replace b16 := Lib.hid b16
              replace eG := Lib.hid eG
              clear e8 g16
              have r0 := World.cell?_of_row g12.out 0 _ rfl
              have hz16 : w.heap.size ≤ G := by have := z14.out; omega
              refine peOf_r37 (V12 := V12) (y := y) r0 hn20 ?_
              · intro t194 t195 t196 t197 t198 t199 t200 t201 t202
                obtain ⟨wc, hwc⟩ : ∃ x, x = w16 := ⟨_, rfl⟩
                subst hwc
                go_upto_if 203 with fail
                go_cut [8] from 189 to 294 (fun c8 wx => Hid (PS w wx w.heap.size (w.heap.size + 1) (w.heap.size + 1 + 1) mc [.slice none 0 0, .int .i64 K, .slice s.N s.nums.length s.nc, x3] m.opt (.slice O m.opt.length oc) (symStep k Sk y).texts E0.heads rk c8 (.slice HA E0.heads.length hc) u10 m.bits.length k Sk.n vp vs vc pcs scs ccs) ∧
                  Hid (wx.heap[V12]? = some (.cells #[.string ⟨y.name.toArray⟩, .int .u32 y.value, .int .i16 y.sect, .int .u16 y.typ, .int .u8 y.cls] 45 (0, 0))) ∧
                  Hid (wx.ownsRow G 5 1 (.slice (some ⟨G, 0, none⟩) 8 8) 8 ((symNm Sk.texts y).map bv)))
                case first =>
                  --[U
                  cases hb : longName y
                  · have hb2 : y.name.length ≤ 8 ∧ y.name.length ≠ 0 := by
                      have hb' : ¬ (8 < y.name.length ∨ y.name.length = 0) := of_decide_eq_false hb
                      omega
                    have hsz : (⟨y.name.toArray⟩ : ByteArray).size = y.name.length := by simp [ByteArray.size]
                    obtain ⟨w20, hcp, own20, C20, z20⟩ := text_copied G 8 8 G (List.replicate 8 0) ⟨y.name.toArray⟩ wc own16.out (by omega) (by omega)
                    have hcp' : (Builtin.copy_ #[34, 9] 3 #[.slice (some ⟨G, 0, none⟩) 8 8, .string ⟨y.name.toArray⟩]).run Tryz.prog wc = .ok (.int .i64 ((⟨y.name.toArray⟩ : ByteArray).size : Int)) w20 := hcp _
                    have bl20 : Below w14.heap.size w14 w20 := b16.out.trans (C20.below b16.out.size (fun q hq e => by have := eG.out; omega))
                    have P20 := Lib.hid (P14.out.later bl20)
                    have g20 := row_later bl20 g14
                    have e20 : symNm Sk.texts y = (⟨y.name.toArray⟩ : ByteArray).data.toList ++ (List.replicate 8 (0 : UInt8)).drop (⟨y.name.toArray⟩ : ByteArray).size := by
                      unfold symNm name8B
                      rw [if_neg (by simp [hb]), hsz, List.drop_replicate]
                    rw [← e20] at own20
                    have e21 : (symStep k Sk y).texts = Sk.texts := by unfold symStep; simp only; rw [if_neg (by simp [hb])]
                    replace own20 := Lib.hid own20
                    replace e21 := Lib.hid e21
                    replace e20 := Lib.hid e20
                    replace hsz := Lib.hid hsz
                    replace hcp := Lib.hid hcp'
                    clear C20 z20 bl20 hb2 hcp'
                    go_wp2_with (refine Lib.wpList_copy_run (v' := .int .i64 ((⟨y.name.toArray⟩ : ByteArray).size : Int)) (w' := w20) wc rfl (.tmp 218) (.tmp 220) 34 9 rfl _ _ rfl rfl (by exact hcp.out) ?_)
                    go_wp2_with fail
                    go_meet
                    case rel => exact ⟨by rw [e21.out]; exact P20, g20, own20⟩
                  · 
                    --[UL
                    have row0 := Lib.hid (row_of_owns own16.out)
                    obtain ⟨-, TA, tc, rfl, -, htc, -⟩ := RB.of_owns P16.out.t
                    go_upto_region 38 with fail
                    refine peOf_r38 (G := G) row0 (by omega) ?_
                    intro t204 t205 t206 t207 t208 t209 t210 t211 w17 w18 b17' h18' C18
                    have b17 := Lib.hid b17'
                    have h18 := Lib.hid h18'
                    clear b17' h18'
                    have hw17 := b17.out.size
                    have bl18 : Below w14.heap.size w14 w18 := (b16.out.trans (b17.out.mono b16.out.size)).trans (C18.below (Nat.le_trans b16.out.size hw17) (fun q hq e => by have := eG.out; omega))
                    have P18 := Lib.hid (P14.out.later bl18)
                    have g18 := row_later bl18 g14
                    have e20 : symNm Sk.texts y = List.replicate 4 0 ++ le 4 (4 + Sk.texts.length) := by
                      unfold symNm
                      rw [if_pos hb]
                    rw [← e20] at h18
                    have own18 := Lib.hid (owns_whole (base := G) (size := 1) (n := 8) h18.out (Nat.le_refl _) (by rw [List.length_map, symNm_len]) (by simp only [maxLen]; omega))
                    have ap18 : Hid (Apart (.slice TA Sk.texts.length tc) (.slice (some ⟨G, 0, none⟩) 8 8)) := Lib.hid (fun q hq hg => by
                      have h1 := hvt.out q hq
                      simp only [Value.ownBlock, Option.some.injEq] at hg
                      have := z14.out
                      omega)
                    clear e20 h18 C18 bl18 b17 hw17 row0 P16 own16
                    have r0 := World.cell?_of_row g18.out 0 _ rfl
                    have hbs : Hid ((⟨y.name.toArray⟩ : ByteArray).size = y.name.length) := Lib.hid (by simp [ByteArray.size])
                    go_wp2_with (at_builtin; refine Stop.mk ?_)
                    refine Stop.go ?_
                    refine wpList_append_text rfl (.tmp 212) (.tmp 214) 34 9 rfl w.heap.size 5 Tryz.underlying34 Tryz.underlying9 Tryz.infoByte _ _ Sk.texts rfl P18.out.t ⟨y.name.toArray⟩ rfl (by rw [hbs.out]; omega) P18.out.b.size ?_
                    intro v19 w19 own19 g19 at19
                    have own19' : w19.ownsRow w.heap.size 5 1 v19 (Sk.texts ++ y.name).length ((Sk.texts ++ y.name).map bv) := by
                      rw [List.length_append, ← hbs.out]
                      exact own19
                    have K19 := Keeps.of_grown P18.out.t g19
                    have g19' := Lib.hid (K19.block _ _ _ _ g18.out (by decide))
                    obtain ⟨own20, ap20⟩ := ap18.out.kept own18.out g19 at19
                    replace own20 := Lib.hid own20
                    replace ap20 := Lib.hid ap20
                    have P19 := Lib.hid (P18.out.growT own19' g19 at19)
                    clear own19 own19' g19 at19 K19 P18 g18 own18 ap18 r0
                    obtain ⟨tx2, etx⟩ : ∃ tx2, Sk.texts ++ y.name = tx2 := ⟨_, rfl⟩
                    have htx : tx2.length ≤ 150 := by rw [← etx, List.length_append]; omega
                    rw [etx] at P19
                    replace etx := Lib.hid etx
                    have bl21 : Below w19.heap.size w19 (w19.alloc (.cells #[.int .u8 0] 5)) := (Below.refl _ _).alloc (Nat.le_refl _) _
                    have P21 := Lib.hid (P19.out.later bl21)
                    have R0 : Hid (RB (w19.alloc (.cells #[.int .u8 0] 5)) (some ⟨w19.heap.size, 0, none⟩) [0]) := Lib.hid (RT.bytes (l := [0]) (RT.new (vs := [(0 : UInt8)].map bv) rfl))
                    have g21 := row_later bl21 g19'
                    have own21 := Lib.hid (owns_later own20.out bl21)
                    clear bl21 P19 g19' own20
                    go_wp2_with (at_builtin; refine Stop.mk ?_)
                    refine Stop.go ?_
                    refine wpList_append_bytes Tryz.underlying34 Tryz.infoByte rfl (.tmp 215) (.tmp 216) rfl w.heap.size _ _ tx2 rfl P21.out.t (some ⟨w19.heap.size, 0, none⟩) 1 1 [0] rfl rfl R0.out (by omega) P21.out.b.size ?_
                    intro v22 w22 own22 g22 at22
                    have e22 : tx2 ++ [0] = (symStep k Sk y).texts := by unfold symStep; simp only; rw [if_pos hb, ← etx.out]
                    have own22' : w22.ownsRow w.heap.size 5 1 v22 (tx2 ++ [0]).length ((tx2 ++ [0]).map bv) := by
                      rw [List.length_append]
                      exact own22
                    rw [e22] at own22'
                    have K22 := Keeps.of_grown P21.out.t g22
                    have g22' := Lib.hid (K22.block _ _ _ _ g21.out (by decide))
                    have own23 := Lib.hid (ap20.out.kept own21.out g22 at22).1
                    have P22 := Lib.hid (P21.out.growT own22' g22 at22)
                    clear own22 own22' g22 at22 K22 P21 g21 own21 R0 e22
                    go_wp2_with fail
                    go_meet
                    case rel => exact ⟨P22, g22', own23⟩
                    --]UL
                  --]U
                case rest =>
                  --[V
                  obtain ⟨hP, g12, own⟩ := hcut
                  obtain ⟨tx3, etx3⟩ : ∃ t, (symStep k Sk y).texts = t := ⟨_, rfl⟩
                  rw [etx3] at hP
                  replace etx3 := Lib.hid etx3
                  obtain ⟨nm, enm⟩ : ∃ nm, symNm Sk.texts y = nm := ⟨_, rfl⟩
                  have hnm8 : Hid (nm.length = 8) := Lib.hid (by rw [← enm]; exact symNm_len _ _)
                  rw [enm] at own
                  replace enm := Lib.hid enm
                  have hbw := hP.out.b
                  have c19 := World.cell?_of_row hP.out.v1 9 (.slice (some ⟨g', o', none⟩) m.syms.length s.xc) (by rw [← hmc, ← hXA.out]; rfl)
                  have q6 := (hbw.cell (p := ⟨g', o' + k, none⟩) (World.block_lt_of_cell? w _ q5)).trans q5
                  have hltX : (k : Int) < (m.syms.length : Int) := by omega
                  clear hbw
                  go_upto_region 42 with fail
                  clear c19 q6
                  obtain ⟨VA, vac, rfl, -, hvac, -⟩ := RT.of_owns hP.out.s
                  have hV12 : V12 < wc.heap.size := (Array.getElem?_eq_some_iff.1 g12.out).1
                  refine peOf_r42 (V4 := w.heap.size + 1 + 1) (V12 := V12) (y := y) (Lib.hid hP.out.s) hP.out.b.size (Lib.hid hP.out.v4) rfl (by omega) g12 ?_
                  intro t227 t228 t229 t230 t231 t232 w22 o2 vB ss26 own22 g22
                  have bl2 : Below wc.heap.size wc (wc.alloc o2) := (Below.refl _ wc).alloc (Nat.le_refl _) o2
                  have P20 := Lib.hid (hP.out.later bl2)
                  have own20 := Lib.hid (owns_later own.out bl2)
                  have g20 := row_later bl2 g12
                  obtain ⟨VB, vbc, rfl, -, -, -⟩ := RT.of_owns own22
                  have g12b := Lib.hid ((g22.block V12 (by simp; omega) (fun e => absurd (hvs.out V12 e.symm) (Nat.lt_irrefl _))).trans g20.out)
                  obtain ⟨w23, e23, P23, K22, K23⟩ := P20.out.pushS own22 g22
                  have own22' := Lib.hid (owns_keeps (owns_keeps own20.out K22 (by decide)) K23 (by decide))
                  have g12c := Lib.hid (K23.block _ _ _ _ g12b.out (by decide))
                  replace P23 := Lib.hid P23
                  rw [← e23]
                  clear e23 own22 g22 K22 K23 P20 g20 own20 g12b hP own g12 hvs bl2 hV12
                  obtain ⟨n, hn⟩ : ∃ n, Sk.n = n := ⟨_, rfl⟩
                  rw [hn] at P23 hln
                  replace hn := Lib.hid hn
                  obtain ⟨VC, vcc, rfl, -, hvcc, -⟩ := RT.of_owns P23.out.c
                  go_upto_region 43 with fail
                  refine peOf_r43 (V4 := w.heap.size + 1 + 1) (V12 := V12) (G := G) (y := y) (Lib.hid P23.out.c) P23.out.b.size (Lib.hid P23.out.v4) rfl (by omega) hax2 g12c ?_
                  intro t233 t234 t235 t236 t237 t238 t239 t240 t241 t242 t243 t244 t245 t246 t247 t248 t249 w25 o3 vD cs26 own25 g25
                  have bl3 : Below w23.heap.size w23 (w23.alloc o3) := (Below.refl _ w23).alloc (Nat.le_refl _) o3
                  have P24 := Lib.hid (P23.out.later bl3)
                  have own24 := Lib.hid (owns_later own22'.out bl3)
                  have g24 := row_later bl3 g12c
                  obtain ⟨VD, vdc, rfl, -, -, -⟩ := RT.of_owns own25
                  obtain ⟨w26, e26, P26, K25, K26⟩ := P24.out.pushC own25 g25
                  have own26 := Lib.hid (owns_keeps (owns_keeps own24.out K25 (by decide)) K26 (by decide))
                  have g26 := Lib.hid (K26.block _ _ _ _ (K25.block _ _ _ _ g24.out (by decide)) (by decide))
                  replace P26 := Lib.hid P26
                  rw [← e26]
                  clear e26 own25 g25 K25 K26 P23 P24 g24 own24 own22' g12c bl3
                  go_upto_region 44 with fail
                  go_cut [10] from 189 to 294 (fun c10 wx => Hid (PS w wx w.heap.size (w.heap.size + 1) (w.heap.size + 1 + 1) mc [.slice none 0 0, .int .i64 K, .slice s.N s.nums.length s.nc, x3] m.opt (.slice O m.opt.length oc) tx3 E0.heads (rk ++ recB Sk.texts y) u8 (.slice HA E0.heads.length hc) c10 m.bits.length (k + 1) (n + 1) vp (.slice VB (k + 1) vbc) (.slice VD (n + 1) vdc) pcs ss26 cs26))
                  case first =>
                    --[W
                    obtain ⟨-, RA, rc, rfl, -, hrc, -⟩ := RB.of_owns P26.out.r
                    have ap26 : Hid (Apart (.slice RA rk.length rc) (.slice (some ⟨G, 0, none⟩) 8 8)) := Lib.hid (fun q hq hg => by
                      have h1 := hvr.out q hq
                      simp only [Value.ownBlock, Option.some.injEq] at hg
                      have := z14.out
                      omega)
                    have hr := Lib.hid P26.out.r
                    refine peOf_r44 (V12 := V12) (G := G) (y := y) (Sk := Sk) hr P26.out.b.size ap26 g26 own26 enm hnm8 hrk y1 y2 y3 y4 y5 hax2 ?_
                    intro c10 t250 t251 t252 t253 t254 t255 t256 t257 t258 t259 t260 t261 t262 t263 t264 t265 t266 t267 t268 t269 t270 t271 t272 w29 w30 b29 own30 g30 at30
                    have P29 := Lib.hid (P26.out.later b29)
                    have P30 := Lib.hid (P29.out.growR (l := rk ++ recB Sk.texts y) (by rw [List.length_append, recB_len]; exact own30) g30 at30)
                    clear b29 own30 g30 at30 P29 hr P26 g26 own26
                    go_wp2_with fail
                    go_meet
                    case rel => exact P30
                    --]W
                  case rest =>
                    --[Y
                    clear own26 g26 P26 hvt hvr
                    have hP1 := hcut
                    clear hcut
                    obtain ⟨r1, er1⟩ : ∃ r, rk ++ recB Sk.texts y = r := ⟨_, rfl⟩
                    have hr1 : r1.length ≤ 342 := by rw [← er1, List.length_append, recB_len]; omega
                    rw [er1] at hP1
                    replace er1 := Lib.hid er1
                    have hn15 : n ≤ 18 := by omega
                    go_wp2_with fail
                    go_loopw [10, 274] (fun vr i wx => ∃ (j : Nat) (vc' : Value) (cs' : List Value), j ≤ y.aux ∧ i = .int .i64 j ∧
                      Hid (PS w wx w.heap.size (w.heap.size + 1) (w.heap.size + 1 + 1) mc [.slice none 0 0, .int .i64 K, .slice s.N s.nums.length s.nc, x3] m.opt (.slice O m.opt.length oc) tx3 E0.heads (r1 ++ auxsB j k) u8 (.slice HA E0.heads.length hc) vr m.bits.length (k + 1) (n + 1 + j) vp (.slice VB (k + 1) vbc) vc' pcs ss26 cs')) (fun _ i _ => y.aux - (intOf i).toNat)
                    case atStart => exact ⟨0, _, _, Nat.zero_le _, rfl, Lib.hid (by simpa [auxsB] using hP1.out)⟩
                    case round =>
                      obtain ⟨j, vc', cs', hj, rfl, hP⟩ := hrel
                      by_cases hjn : j < y.aux
                      ·
                        --[Z
                        have hwj : IntKind.u8.wrap ((j : Int) + 1) = (j : Int) + 1 := by rw [IntKind.wrap_u8]; omega
                        have hwk : IntKind.u8.wrap (k : Int) = (k : Int) := by rw [IntKind.wrap_u8]; omega
                        go_upto_region 49 with fail
                        have e18 : (.cells #[.int .u8 ((j : Int) + 1), .int .u8 (k : Int), .int .u8 3, .int .u8 4, .int .u8 5, .int .u8 6, .int .u8 7, .int .u8 8, .int .u8 9, .int .u8 10, .int .u8 11, .int .u8 12, .int .u8 13, .int .u8 14, .int .u8 15, .int .u8 16, .int .u8 17, .int .u8 18] 5 : Obj) = .cells ((auxB j k).map bv).toArray 5 := by rw [aux_cells j k (by omega) (by omega)]
                        rw [e18]
                        clear e18 hwj hwk
                        obtain ⟨wA, eA⟩ : ∃ w', wr.alloc (.cells ((auxB j k).map bv).toArray 5) = w' := ⟨_, rfl⟩
                        have blA : Below wr.heap.size wr wA := by rw [← eA]; exact (Below.refl _ wr).alloc (Nat.le_refl _) _
                        have PA := Lib.hid (hP.out.later blA)
                        have RTA : RT wA 5 (some ⟨wr.heap.size, 0, none⟩) 1 18 ((auxB j k).map bv) := by rw [← eA]; exact RT.new rfl
                        rw [eA]
                        obtain ⟨GA, eGA⟩ : ∃ g, wr.heap.size = g := ⟨_, rfl⟩
                        rw [eGA] at RTA
                        rw [eGA]
                        replace RTA := Lib.hid RTA
                        clear eA blA hP eGA
                        obtain ⟨VC2, vcc2, rfl, -, hvcc2, -⟩ := RT.of_owns PA.out.c
                        go_cut [] from 275 to 293 (fun wx => ∃ (vc2 : Value) (cs2 : List Value), Hid (PS w wx w.heap.size (w.heap.size + 1) (w.heap.size + 1 + 1) mc [.slice none 0 0, .int .i64 K, .slice s.N s.nums.length s.nc, x3] m.opt (.slice O m.opt.length oc) tx3 E0.heads (r1 ++ auxsB j k) u8 (.slice HA E0.heads.length hc) u10 m.bits.length (k + 1) (n + 1 + j + 1) vp (.slice VB (k + 1) vbc) vc2 pcs ss26 cs2) ∧ Hid (RB wx (some ⟨GA, 0, none⟩) (auxB j k)))
                        case first =>
                          --[Z1
                          have hc := Lib.hid PA.out.c
                          refine peOf_r49 (V4 := w.heap.size + 1 + 1) (GA := GA) (n := n + 1 + j) (b := auxB j k) hc PA.out.b.size (Lib.hid PA.out.v4) rfl (by omega) RTA (Lib.hid rfl) ?_
                          intro t283 t284 t285 t286 t287 t288 t289 w32 w33 o vc2 cs2 b32 own33 g33
                          have P32a := Lib.hid ((PA.out.later b32).later ((Below.refl _ w32).alloc (Nat.le_refl _) o))
                          obtain ⟨w34, e34, P34', K33, K34⟩ := P32a.out.pushC own33 g33
                          have P34 := Lib.hid P34'
                          have RB34 : Hid (RB w34 (some ⟨GA, 0, none⟩) (auxB j k)) := Lib.hid ((((RTA.out.later b32).later ((Below.refl _ w32).alloc (Nat.le_refl _) o)).keeps K33 (by decide)).keeps K34 (by decide)).bytes
                          have e34' := Lib.hid e34
                          clear e34 P34' K33 K34 own33 g33 hc
                          go_wp2_with fail
                          go_meet
                          case rel => rw [← e34'.out]; exact ⟨_, _, P34, RB34⟩
                          --]Z1
                        case rest =>
                          --[Z2
                          obtain ⟨vc2, cs2, hP2, RA2⟩ := hcut
                          clear PA
                          have hlA : (r1 ++ auxsB j k).length ≤ 400 := by rw [List.length_append, auxsB_len]; omega
                          go_wp2_with (at_builtin; refine Stop.mk ?_)
                          refine Stop.go ?_
                          refine wpList_append_bytes Tryz.underlying34 Tryz.infoByte rfl (.tmp 290) (.tmp 291) rfl w.heap.size _ _ (r1 ++ auxsB j k) rfl hP2.out.r (some ⟨GA, 0, none⟩) 18 18 (auxB j k) rfl rfl RA2.out (by omega) hP2.out.b.size ?_
                          intro v35 w35 own35 g35 at35
                          have P35 := Lib.hid (hP2.out.growR (l := r1 ++ auxsB (j + 1) k) (by rw [auxsB_next, ← List.append_assoc, List.length_append]; exact own35) g35 at35)
                          clear own35 g35 at35 hP2 RA2
                          go_wp2
                          go_roundw
                          case rel => exact ⟨j + 1, _, _, by omega, by go_num, P35⟩
                          case measure => simp [intOf]; omega
                          --]Z2
                        --]Z
                      · 
                        --[X
                        obtain rfl : j = y.aux := by omega
                        have hP9 : Hid (PS w wr w.heap.size (w.heap.size + 1) (w.heap.size + 1 + 1) mc [.slice none 0 0, .int .i64 K, .slice s.N s.nums.length s.nc, x3] m.opt (.slice O m.opt.length oc) (symStL E0.texts m.syms (k + 1)).texts E0.heads (E0.rest ++ (symStL E0.texts m.syms (k + 1)).rest) u8 (.slice HA E0.heads.length hc) u10 m.bits.length (k + 1) (symStL E0.texts m.syms (k + 1)).n vp (.slice VB (k + 1) vbc) vc' pcs ss26 cs') := Lib.hid (by
                          have e : symStL E0.texts m.syms (k + 1) = symStep k Sk y := by rw [symStL_succ hy, hSk.out]
                          have e1 : (symStep k Sk y).n = n + 1 + y.aux := by rw [← hn.out]; rfl
                          have e2 : E0.rest ++ (symStep k Sk y).rest = r1 ++ auxsB y.aux k := by
                            rw [← er1.out, ← erk.out]
                            simp only [symStep, List.append_assoc]
                          rw [e, e1, e2, etx3.out]
                          exact hP.out)
                        clear hP
                        go_wp2
                        go_roundw
                        case rel => exact ⟨k + 1, _, _, _, _, by omega, by go_num, hP9⟩
                        case measure => simp [intOf]; omega
                        --]X
                    --]Y
                  --]V
              --]S
            ·
              --[T
              obtain rfl : k = m.syms.length := by omega
              have hlenT := symSt_len' (t0 := E0.texts) hok.out.syms m.syms.length (Nat.le_refl _)
              obtain ⟨E1, hE1⟩ : ∃ E, symStL E0.texts m.syms m.syms.length = E := ⟨_, rfl⟩
              rw [hE1] at hP hlenT
              obtain ⟨hlt, hlr, hln⟩ := hlenT
              have hs6 := hok.out.s6
              have htx0 : E0.texts.length = 0 := by rw [hE00.out.1]; rfl
              have hrs0 : E0.rest.length = 0 := by rw [hE00.out.2.2]; rfl
              obtain ⟨R1, hR1⟩ : ∃ r, E0.rest ++ E1.rest = r := ⟨_, rfl⟩
              have hr1 : R1.length ≤ 330 := by rw [← hR1, List.length_append]; omega
              rw [hR1] at hP
              have heq : Hid (symE m = E1) := Lib.hid (by
                show symStL (secE m).texts m.syms m.syms.length = E1
                rw [show secE m = E0 from hE0.out]
                exact hE1)
              obtain ⟨NN, hNN⟩ : ∃ n, E1.n = n := ⟨_, rfl⟩
              rw [hNN] at hP hln
              have hnn : Hid ((symE m).n = NN) := Lib.hid (by rw [heq.out]; exact hNN)
              obtain ⟨TX, hTX⟩ : ∃ t, E1.texts = t := ⟨_, rfl⟩
              rw [hTX] at hP hlt
              have hl1' : TX.length ≤ 130 := by omega
              have hn18 : NN ≤ 18 := by omega
              have hwn : IntKind.u64.wrap (NN : Int) = (NN : Int) := by rw [IntKind.wrap_u64]; omega
              replace hE1 := Lib.hid hE1
              replace hR1 := Lib.hid hR1
              replace hTX := Lib.hid hTX
              clear hNN hlt hlr hln htx0 hrs0
              obtain ⟨-, TA, tc, rfl, -, htc, -⟩ := RB.of_owns hP.out.t
              obtain ⟨-, RA, rc, rfl, -, hrc, -⟩ := RB.of_owns hP.out.r
              obtain ⟨VS, vsc, rfl, -, hvsc, -⟩ := RT.of_owns hP.out.s
              obtain ⟨VC, vcc, rfl, -, hvcc, -⟩ := RT.of_owns hP.out.c
              have T0 := Lib.hid (hP.out.ts (by omega))
              have hwr := hP.out.b.size
              clear hP hnames2
              have c47 := World.cell?_of_row T0.out.v4 7 _ rfl
              have f47 := frozen_of_row _ (w.heap.size + 1 + 1) 7 _ _ T0.out.v4
              go_upto_region 54 with fail
              have T1' := T0.out.set 7 (.slice TA TX.length tc)
              obtain ⟨w1, e1⟩ : ∃ w', wr.setCell ⟨w.heap.size + 1 + 1, 7, none⟩ (.slice TA TX.length tc) = w' := ⟨_, rfl⟩
              rw [e1] at T1' ⊢
              have T1 := Lib.hid T1'
              clear T1' T0 e1 c47 f47
              have hBy := Lib.hid (specBytes_any false 4 (4 + TX.length) (by omega) (by omega) w1)
              go_wp2_with fail
              refine hBy.out.mono ?_
              rintro e w2 ⟨⟨u, rfl, ownL⟩, b2⟩
              obtain ⟨-, AL, cL, rfl, RL, hcL, -⟩ := RB.of_owns ownL
              have T2 := Lib.hid (T1.out.later b2)
              replace RL := Lib.hid RL
              clear T1 hBy ownL b2
              go_wp2_with (at_builtin; refine Stop.mk ?_)
              refine Stop.go ?_
              refine wpList_append_bytes Tryz.underlying34 Tryz.infoByte rfl (.tmp 297) (.tmp 302) rfl w.heap.size _ _ R1 rfl T2.out.r AL _ cL (le 4 (4 + TX.length)) rfl (by rw [le_len]) RL.out (by omega) T2.out.b.size ?_
              intro v3 w3' own3 g3 at3
              rw [show R1.length + 4 = (R1 ++ le 4 (4 + TX.length)).length by rw [List.length_append, le_len]] at own3
              have T3 := Lib.hid (T2.out.growR own3 g3 at3)
              clear T2 own3 g3 at3 RL
              obtain ⟨r2, er2⟩ : ∃ r2, R1 ++ le 4 (4 + TX.length) = r2 := ⟨_, rfl⟩
              have hr2 : r2.length ≤ 340 := by rw [← er2, List.length_append, le_len]; omega
              rw [er2] at T3
              replace er2 := Lib.hid er2
              have RT3 : Hid (RB w3' TA TX) := Lib.hid (by
                obtain ⟨-, A', c', e', R', -⟩ := RB.of_owns T3.out.t
                simp only [Value.slice.injEq, true_and] at e'
                obtain ⟨rfl, rfl⟩ := e'
                exact R')
              go_wp2_with (at_builtin; refine Stop.mk ?_)
              refine Stop.go ?_
              refine wpList_append_bytes Tryz.underlying34 Tryz.infoByte rfl (.tmp 303) (.tmp 304) rfl w.heap.size _ _ r2 rfl T3.out.r TA _ tc TX rfl rfl RT3.out (by omega) T3.out.b.size ?_
              intro v4 w4 own4 g4 at4
              rw [← List.length_append] at own4
              have T4 := Lib.hid (T3.out.growR own4 g4 at4)
              clear T3 own4 g4 at4 RT3
              obtain ⟨r3, er3⟩ : ∃ r3, r2 ++ TX = r3 := ⟨_, rfl⟩
              have hr3 : r3.length ≤ 480 := by rw [← er3, List.length_append]; omega
              rw [er3] at T4
              replace er3 := Lib.hid er3
              obtain ⟨-, RA4, rc4, rfl, -, hrc4, -⟩ := RB.of_owns T4.out.r
              have d0 := World.cell?_of_row T4.out.v1 0 (.int .i64 (m.stub : Int)) (by rw [← hmc]; rfl)
              have d1 := World.cell?_of_row T4.out.v1 1 (.int .u16 (m.machine : Int)) (by rw [← hmc]; rfl)
              have d2 := World.cell?_of_row T4.out.v1 2 (.int .u32 (m.time : Int)) (by rw [← hmc]; rfl)
              have d3 := World.cell?_of_row T4.out.v1 3 (.int .u16 (m.flags : Int)) (by rw [← hmc]; rfl)
              have d7 := World.cell?_of_row T4.out.v1 7 (.slice BB m.bits.length s.bc) (by rw [← hmc, ← hBB]; rfl)
              have c46 := World.cell?_of_row T4.out.v4 6 (.slice VC NN vcc) rfl
              have T5 := Lib.hid (T4.out.later ((Below.refl _ w4).alloc (Nat.le_refl _) (.cells #[.int .u64 (m.machine : Int), .int .u64 (m.bits.length : Int), .int .u64 (m.time : Int), .int .u64 ((atN m : Int) + (E0.rest.length : Int)), .int .u64 (NN : Int), .int .u64 (m.opt.length : Int), .int .u64 (m.flags : Int)] 54)))
              have c40 := World.cell?_of_row T5.out.v4 0 (.slice none 0 0) rfl
              have f40 := frozen_of_row _ (w.heap.size + 1 + 1) 0 _ _ T5.out.v4
              have hma : m.machine ≤ 50000 := by
                have h := hok.out.mach
                simp only [machL, List.mem_cons, List.not_mem_nil, or_false] at h
                omega
              have hti := hok.out.time
              have hfl := hok.out.flags
              go_upto_region 56 with fail
              have T6' := T5.out.set 0 (.slice (some ⟨w4.heap.size, 0, none⟩) 7 7)
              obtain ⟨w6, e6⟩ : ∃ w', (w4.alloc (.cells #[.int .u64 (m.machine : Int), .int .u64 (m.bits.length : Int), .int .u64 (m.time : Int), .int .u64 ((atN m : Int) + (E0.rest.length : Int)), .int .u64 (NN : Int), .int .u64 (m.opt.length : Int), .int .u64 (m.flags : Int)] 54)).setCell ⟨w.heap.size + 1 + 1, 0, none⟩ (.slice (some ⟨w4.heap.size, 0, none⟩) 7 7) = w' := ⟨_, rfl⟩
              have RH : Hid (RC w6 (some ⟨w4.heap.size, 0, none⟩) 1 7 ([m.machine, m.bits.length, m.time, atN m + E0.rest.length, NN, m.opt.length, m.flags].map uv)) := Lib.hid (by
                refine rc_of_row (T := 54) rfl ?_
                have hl4 := T4.out.b.size
                rw [← e6, ((Chg.refl (· = w.heap.size + 1 + 1) _).setCell ⟨w.heap.size + 1 + 1, 0, none⟩ _ (.inl rfl)).row (heap_alloc_new _ _) (by
                  have := (Array.getElem?_eq_some_iff.1 T4.out.v4).1
                  omega)]
                rw [List.map_cons, List.map_cons, List.map_cons, List.map_cons]
                simp only [uv, Int.natCast_add]
                rfl)
              rw [e6] at T6' ⊢
              have T6 := Lib.hid T6'
              clear T6' T5 T4 e6 c40 f40 c46 d0 d1 d2 d3 d7 
              have d0 := World.cell?_of_row T6.out.v1 0 (.int .i64 (m.stub : Int)) (by rw [← hmc]; rfl)
              have hV16 : w.heap.size < w6.heap.size := (Array.getElem?_eq_some_iff.1 T6.out.v1).1
              have o7 := Lib.hid (owns_new (w := w6) 5 (Nat.le_refl _))
              have b7 := Lib.hid ((Below.refl w6.heap.size w6).alloc (Nat.le_refl _) (.cells #[] 5))
              go_upto_if 333 with fail
              go_cut [24] from 331 to 350 (fun c24 wx => Hid (wx.ownsRow w6.heap.size 5 1 c24 (preB m).length ((preB m).map bv)) ∧ Hid (Below w6.heap.size w6 wx))
              case first =>
                --[E
                by_cases h0 : m.stub = 0
                · have h1 : ¬ 0 < m.stub := by omega
                  have hpe : preB m = [] := by unfold preB; rw [if_pos h0]
                  go_wp2_with fail
                  go_meet
                  case rel => exact ⟨Lib.hid (by rw [hpe]; exact o7.out), b7⟩
                · have h1 : 0 < m.stub := by omega
                  have h64 : 64 ≤ m.stub := by omega
                  obtain ⟨Z, hZ⟩ : ∃ Z, m.stub = Z := ⟨_, rfl⟩
                  rw [hZ] at h1 h64 d0
                  replace hZ := Lib.hid hZ
                  have hZ127 : Z ≤ 127 := by have := hZ.out; omega
                  have hmk := makeZeros Z (by omega)
                  have hpe : Hid (preB m = stubB Z ++ [80, 69, 0, 0]) := Lib.hid (by unfold preB; rw [if_neg h0, hZ.out])
                  go_upto_region 59 with fail
                  obtain ⟨w8, e8⟩ : ∃ w', ((w6.alloc (.cells #[] 5)).alloc (.cells (Array.replicate Z (bv 0)) 5)) = w' := ⟨_, rfl⟩
                  have h8 : w8.heap[w6.heap.size + 1]? = some (.cells ((List.replicate Z (0 : UInt8)).map bv).toArray 5 (0, 0)) := by
                    have e : w6.heap.size + 1 = (w6.alloc (.cells #[] 5)).heap.size := by simp
                    have e2 : (Array.replicate Z (bv 0)) = ((List.replicate Z (0 : UInt8)).map bv).toArray := by simp
                    rw [e, ← e8, heap_alloc_new, e2]
                  have b8 : Below w6.heap.size w6 w8 := by rw [← e8]; exact b7.out.alloc (by simp) _
                  have hsl : ∀ W, (Instr.slice 34 (.slice (some ⟨w6.heap.size + 1, 0, none⟩) Z Z) (some (.int .i64 60)) none none).run Tryz.prog W = .ok (.slice (some ⟨w6.heap.size + 1, 60, none⟩) (Z - 60) (Z - 60)) W := fun W => by
                    have h := run_slice_from (P := Tryz.prog) Tryz.underlying34 (info_parts Tryz.infoByte).choose_spec.1 (info_parts Tryz.infoByte).choose_spec.2.2.1 (some ⟨w6.heap.size + 1, 0, none⟩) Z Z 60 .i64 (by omega) W
                    rw [slA_some _ _ _ _ (by omega)] at h
                    simpa using h
                  rw [e8]
                  clear e8 o7 b7 hmk d0
                  obtain ⟨g, eg⟩ : ∃ g, w6.heap.size + 1 = g := ⟨_, rfl⟩
                  rw [eg] at h8 hsl ⊢
                  have hz0 : ∀ j, j < Z → ((List.replicate Z (0 : UInt8)).map bv)[j]? = some (.int .u8 0) := by
                    intro j hj
                    rw [List.getElem?_map, List.getElem?_replicate, if_pos hj]
                    rfl
                  obtain ⟨L0, eL0⟩ : ∃ L, (List.replicate Z (0 : UInt8)).map bv = L := ⟨_, rfl⟩
                  have hL0 : L0.length = Z := by rw [← eL0]; simp
                  rw [eL0] at h8 hz0
                  have s0 := World.cell?_of_row h8 0 _ (hz0 0 (by omega))
                  have f0 := frozen_of_row _ g 0 _ _ h8
                  have h9 := heap_setCell_same w8 g 0 _ _ (.int .u8 77) h8
                  rw [List.setIfInBounds_toArray] at h9
                  have s1 := World.cell?_of_row h9 1 (.int .u8 0) (by rw [List.getElem?_set_ne (by decide)]; exact hz0 1 (by omega))
                  have f1 := frozen_of_row _ g 1 _ _ h9
                  have h10 := heap_setCell_same _ g 1 _ _ (.int .u8 90) h9
                  rw [List.setIfInBounds_toArray] at h10
                  have C10 : Chg (· = g) w8 ((w8.setCell ⟨g, 0, none⟩ (.int .u8 77)).setCell ⟨g, 1, none⟩ (.int .u8 90)) := ((Chg.refl (· = g) w8).setCell ⟨g, 0, none⟩ _ (.inl rfl)).setCell ⟨g, 1, none⟩ _ (.inl rfl)
                  have hZ2 : 2 ≤ Z := by omega
                  replace h8 := Lib.hid h8
                  replace h9 := Lib.hid h9
                  replace h10 := Lib.hid h10
                  replace C10 := Lib.hid C10
                  replace eL0 := Lib.hid eL0
                  replace hL0 := Lib.hid hL0
                  clear hz0
                  go_upto_region 60 with fail
                  obtain ⟨w10, e10⟩ : ∃ w', (w8.setCell ⟨g, 0, none⟩ (.int .u8 77)).setCell ⟨g, 1, none⟩ (.int .u8 90) = w' := ⟨_, rfl⟩
                  rw [e10] at h10 C10 ⊢
                  have hw8 := b8.size
                  have hw10 := C10.out.size
                  have d0 : w10.cell? ⟨w.heap.size, 0, none⟩ = some (.int .i64 (Z : Int)) := by
                    refine (C10.out.cell (p := ⟨w.heap.size, 0, none⟩) (by show w.heap.size < w8.heap.size; omega) (by show ¬ w.heap.size = g; omega)).trans ((b8.cell (p := ⟨w.heap.size, 0, none⟩) hV16).trans ?_)
                    have h := World.cell?_of_row T6.out.v1 0 (.int .i64 (m.stub : Int)) (by rw [← hmc]; rfl)
                    rw [hZ.out] at h
                    exact h
                  have hlt : w.heap.size < w10.heap.size := by omega
                  obtain ⟨L1, eL1⟩ : ∃ L, (L0.set 0 (.int .u8 77)).set 1 (.int .u8 90) = L := ⟨_, rfl⟩
                  rw [eL1] at h10
                  have hL1 : Hid (L1.length = Z) := Lib.hid (by rw [← eL1]; simpa using hL0.out)
                  have hrow : Hid (splice L1 60 (((le 4 Z).take (Z - 60)).map bv) = (stubB Z).map bv) := Lib.hid (by rw [← eL1, ← eL0.out]; exact stub_row Z h64)
                  have hmin : Hid (0 < Nat.min 4 (Z - 60)) := Lib.hid (Nat.lt_min.2 ⟨by omega, by omega⟩)
                  have hfit : Hid (60 + Nat.min 4 (Z - 60) ≤ L1.length) := Lib.hid (by
                    rw [hL1.out]
                    exact Nat.le_trans (Nat.add_le_add_left (Nat.min_le_right 4 (Z - 60)) 60) (by omega))
                  have b10 := Lib.hid (b8.trans (C10.out.below hw8 (fun k hk e => by omega)))
                  clear e10 eL1 h8 h9 C10 b8 s0 s1 f0 f1
                  have hwz : IntKind.u64.wrap (Z : Int) = (Z : Int) := by rw [IntKind.wrap_u64]; omega
                  have hBy : Hid (∀ W, Calls Tryz.prog 18 #[.bool false, .int .i64 4, .int .u64 Z] W fun e w' => (∃ u, e = .returned u ∧ w'.ownsRow W.heap.size 5 1 u 4 ((le 4 Z).map bv)) ∧ Below W.heap.size W w') := Lib.hid (fun W => specBytes_any false 4 Z (by omega) (by omega) W)
                  refine peOf_r60 (V1 := w.heap.size) (g := g) d0 h10 (Lib.hid hL1.out) (by omega) (by omega) hlt (by omega) ?_
                  intro t341 t342 t343 t344 t345 t346 t347 w11 w12 b11' h12' C12
                  have b11 := Lib.hid b11'
                  have h12 := Lib.hid h12'
                  clear b11' h12'
                  rw [hrow.out] at h12
                  have hw11 := b11.out.size
                  have b12 := Lib.hid ((b10.out.trans (b11.out.mono b10.out.size)).trans (C12.below (Nat.le_trans b10.out.size hw11) (fun k hk e => by omega)))
                  have own12 := Lib.hid (owns_whole (base := w6.heap.size) (size := 1) (n := Z) h12.out (by omega) (by rw [List.length_map]; unfold stubB; simp [le_len]; omega) (by simp only [maxLen]; omega))
                  have own12' := Lib.hid (owns_later own12.out ((Below.refl _ w12).alloc (Nat.le_refl _) (.cells #[.int .u8 80, .int .u8 69, .int .u8 0, .int .u8 0] 5)))
                  have b13 := Lib.hid (b12.out.alloc b12.out.size (.cells #[.int .u8 80, .int .u8 69, .int .u8 0, .int .u8 0] 5))
                  have R0 : Hid (RB (w12.alloc (.cells #[.int .u8 80, .int .u8 69, .int .u8 0, .int .u8 0] 5)) (some ⟨w12.heap.size, 0, none⟩) [80, 69, 0, 0]) := Lib.hid (RT.bytes (l := [80, 69, 0, 0]) (RT.new (vs := ([80, 69, 0, 0] : List UInt8).map bv) rfl))
                  clear d0 h10 h12 b10 b11 C12 own12 hrow hmin hfit hL1
                  go_wp2_with (at_builtin; refine Stop.mk ?_)
                  refine Stop.go ?_
                  refine wpList_append_bytes Tryz.underlying34 Tryz.infoByte rfl (.tmp 348) (.tmp 349) rfl w6.heap.size _ _ (stubB Z) rfl own12'.out (some ⟨w12.heap.size, 0, none⟩) 4 4 [80, 69, 0, 0] rfl rfl R0.out (by omega) (by have := b13.out.size; exact this) ?_
                  intro v13 w13 own13 g13 at13
                  have hZl : Z + 4 = (preB m).length := by rw [hpe.out]; unfold stubB; simp [le_len]; omega
                  rw [← hpe.out, hZl] at own13
                  have b14 := Lib.hid (b13.out.grown g13 b13.out.size (fun q hq => (own12'.out.lt q hq).1))
                  replace own13 := Lib.hid own13
                  clear g13 at13 b13 own12' R0 b12 hZl hpe
                  go_wp2_with fail
                  go_meet
                  case rel => exact ⟨own13, b14⟩
                --]E
              case rest =>
                obtain ⟨ownF, bF⟩ := hcut
                have e3 := hx3.out
                subst e3
                obtain ⟨VP, cp, rfl, -, hcp, -⟩ := RT.of_owns T6.out.p
                obtain ⟨-, FA, fc, rfl, -, hfc, -⟩ := RB.of_owns ownF.out
                clear hx3 d0 o7 b7
                have T7 := Lib.hid (T6.out.later bF.out)
                have RH7 := Lib.hid (rc_later RH.out bF.out)
                have c40 := World.cell?_of_row T7.out.v4 0 (.slice (some ⟨w4.heap.size, 0, none⟩) 7 7) rfl
                have hV4 : w.heap.size + 1 + 1 < wc.heap.size := (Array.getElem?_eq_some_iff.1 T7.out.v4).1
                have hbnd : Hid (∀ v ∈ [m.machine, m.bits.length, m.time, atN m + E0.rest.length, NN, m.opt.length, m.flags], v ≤ 18446744073709551615) := Lib.hid (fun v hv => by
                  simp only [List.mem_cons, List.not_mem_nil, or_false] at hv
                  omega)
                have ehB : Hid (rowB [2, 2, 4, 4, 4, 2, 2] [m.machine, m.bits.length, m.time, atN m + E0.rest.length, NN, m.opt.length, m.flags] = hdrB m) := Lib.hid (by
                  have e1 : (secE m).rest = E0.rest := by rw [← hE0.out]; rfl
                  have e2 : (symE m).n = NN := hnn.out
                  unfold hdrB placeN
                  rw [e1, e2]
                  simp [rowB, le])
                have hhB : Hid ((rowB [2, 2, 4, 4, 4, 2, 2] [m.machine, m.bits.length, m.time, atN m + E0.rest.length, NN, m.opt.length, m.flags]).length = 20) := Lib.hid (by rw [rowB_len]; decide)
                go_upto_region 62 with fail
                refine peOf_r62 (V4 := w.heap.size + 1 + 1) (F := preB m) (ol := m.opt) (hl := E0.heads) (w6 := w6) ownF bF (World.cell?_of_row T6.out.v4 0 _ rfl) (Array.getElem?_eq_some_iff.1 T6.out.v4).1 RH hbnd (Lib.hid (RB.of_slice T6.out.o)) (Lib.hid (RB.of_slice T6.out.h)) (by omega) (by omega) (by omega) ?_
                intro t351 t352 t353 t354 t355 t356 t357 t358 t359 t360 t24 y5 own5' b5'
                have b5 := Lib.hid b5'
                have T12 := Lib.hid (T6.out.later b5.out)
                have own5 : Hid (y5.ownsRow w6.heap.size 5 1 t24 (preB m ++ hdrB m ++ m.opt ++ E0.heads).length ((preB m ++ hdrB m ++ m.opt ++ E0.heads).map bv)) := Lib.hid (by rw [← ehB.out]; exact own5')
                clear own5' b5'
                clear c40
                go_upto_region 63 with fail
                have c8 : Hid ((fun w' => w'.cell? ⟨w.heap.size + 1 + 1, 0, none⟩ = some (.slice (some ⟨w4.heap.size, 0, none⟩) 7 7) ∧ w'.cell? ⟨w.heap.size + 1 + 1, 1, none⟩ = some (.int .i64 (K : Int)) ∧ w'.cell? ⟨w.heap.size + 1 + 1, 2, none⟩ = some (.slice s.N s.nums.length s.nc) ∧ w'.cell? ⟨w.heap.size + 1 + 1, 3, none⟩ = some (.slice X3 xn3 xc3) ∧ w'.cell? ⟨w.heap.size + 1 + 1, 4, none⟩ = some (.slice VP m.bits.length cp) ∧ w'.cell? ⟨w.heap.size + 1 + 1, 5, none⟩ = some (.slice VS m.syms.length vsc) ∧ w'.cell? ⟨w.heap.size + 1 + 1, 6, none⟩ = some (.slice VC NN vcc) ∧ w'.cell? ⟨w.heap.size + 1 + 1, 7, none⟩ = some (.slice TA TX.length tc)) y5.drew) := Lib.hid ⟨World.cell?_of_row T12.out.v4 0 _ rfl, World.cell?_of_row T12.out.v4 1 _ rfl, World.cell?_of_row T12.out.v4 2 _ rfl, World.cell?_of_row T12.out.v4 3 _ rfl, World.cell?_of_row T12.out.v4 4 _ rfl, World.cell?_of_row T12.out.v4 5 _ rfl, World.cell?_of_row T12.out.v4 6 _ rfl, World.cell?_of_row T12.out.v4 7 _ rfl⟩
                go_region_held3 (fun w' => w'.cell? ⟨w.heap.size + 1 + 1, 0, none⟩ = some (.slice (some ⟨w4.heap.size, 0, none⟩) 7 7) ∧ w'.cell? ⟨w.heap.size + 1 + 1, 1, none⟩ = some (.int .i64 (K : Int)) ∧ w'.cell? ⟨w.heap.size + 1 + 1, 2, none⟩ = some (.slice s.N s.nums.length s.nc) ∧ w'.cell? ⟨w.heap.size + 1 + 1, 3, none⟩ = some (.slice X3 xn3 xc3) ∧ w'.cell? ⟨w.heap.size + 1 + 1, 4, none⟩ = some (.slice VP m.bits.length cp) ∧ w'.cell? ⟨w.heap.size + 1 + 1, 5, none⟩ = some (.slice VS m.syms.length vsc) ∧ w'.cell? ⟨w.heap.size + 1 + 1, 6, none⟩ = some (.slice VC NN vcc) ∧ w'.cell? ⟨w.heap.size + 1 + 1, 7, none⟩ = some (.slice TA TX.length tc))
                  (first | with_reducible exact c8.out | with_reducible exact K6.out | with_reducible exact ⟨World.cell?_of_row g4.out 0 _ rfl, World.cell?_of_row g4.out 1 _ rfl, World.cell?_of_row g4.out 2 _ rfl, World.cell?_of_row g4.out 3 _ rfl, World.cell?_of_row g4.out 4 _ rfl, World.cell?_of_row g4.out 5 _ rfl, World.cell?_of_row g4.out 6 _ rfl, World.cell?_of_row g4.out 7 _ rfl⟩ | go_keep)
                  (first
                    | (refine step_append_bytes Tryz.underlying34 Tryz.infoByte (by rfl) (.tmp 362) (.tmp 363) (by rfl) w6.heap.size _ _ (preB m ++ hdrB m ++ m.opt ++ E0.heads) (by rfl) own5.out.drew RA4 _ rc4 r3 (by rfl) rfl (RB.of_slice T12.out.r).drew (by rw [List.length_append, List.length_append, List.length_append, hdrB_len]; omega) b5.out.size ?_; intro v6' y6 own6' g6 at6; have b6 := Lib.hid (b5.out.drew.grown g6 b5.out.size (fun q hq => (own5.out.lt q hq).1)); have T13 := Lib.hid (T6.out.later b6.out); have K6 : Hid (((fun w' => w'.cell? ⟨w.heap.size + 1 + 1, 0, none⟩ = some (.slice (some ⟨w4.heap.size, 0, none⟩) 7 7) ∧ w'.cell? ⟨w.heap.size + 1 + 1, 1, none⟩ = some (.int .i64 (K : Int)) ∧ w'.cell? ⟨w.heap.size + 1 + 1, 2, none⟩ = some (.slice s.N s.nums.length s.nc) ∧ w'.cell? ⟨w.heap.size + 1 + 1, 3, none⟩ = some (.slice X3 xn3 xc3) ∧ w'.cell? ⟨w.heap.size + 1 + 1, 4, none⟩ = some (.slice VP m.bits.length cp) ∧ w'.cell? ⟨w.heap.size + 1 + 1, 5, none⟩ = some (.slice VS m.syms.length vsc) ∧ w'.cell? ⟨w.heap.size + 1 + 1, 6, none⟩ = some (.slice VC NN vcc) ∧ w'.cell? ⟨w.heap.size + 1 + 1, 7, none⟩ = some (.slice TA TX.length tc))) y6) := Lib.hid ⟨World.cell?_of_row T13.out.v4 0 _ rfl, World.cell?_of_row T13.out.v4 1 _ rfl, World.cell?_of_row T13.out.v4 2 _ rfl, World.cell?_of_row T13.out.v4 3 _ rfl, World.cell?_of_row T13.out.v4 4 _ rfl, World.cell?_of_row T13.out.v4 5 _ rfl, World.cell?_of_row T13.out.v4 6 _ rfl, World.cell?_of_row T13.out.v4 7 _ rfl⟩; have own6 : Hid (y6.ownsRow w6.heap.size 5 1 v6' ((preB m ++ hdrB m ++ m.opt ++ E0.heads) ++ r3).length (((preB m ++ hdrB m ++ m.opt ++ E0.heads) ++ r3).map bv)) := Lib.hid (by rw [List.length_append]; exact own6'); clear own6' g6 at6; obtain ⟨cs2, h28', g2'⟩ := T13.out.v2; obtain ⟨q0, q1, q2, q3, q4, q5, q6, q7, rfl⟩ := name8 h28'; have g2 := Lib.hid g2'; clear h28' g2'; have e0 := World.cell?_of_row g2.out 0 q0 rfl; have z0 := frozen_of_row _ (w.heap.size + 1) 0 _ _ g2.out; have e1 := World.cell?_of_row g2.out 1 q1 rfl; have z1 := frozen_of_row _ (w.heap.size + 1) 1 _ _ g2.out; have e2 := World.cell?_of_row g2.out 2 q2 rfl; have z2 := frozen_of_row _ (w.heap.size + 1) 2 _ _ g2.out; have e3 := World.cell?_of_row g2.out 3 q3 rfl; have z3 := frozen_of_row _ (w.heap.size + 1) 3 _ _ g2.out; have e4 := World.cell?_of_row g2.out 4 q4 rfl; have z4 := frozen_of_row _ (w.heap.size + 1) 4 _ _ g2.out; have e5 := World.cell?_of_row g2.out 5 q5 rfl; have z5 := frozen_of_row _ (w.heap.size + 1) 5 _ _ g2.out; have e6 := World.cell?_of_row g2.out 6 q6 rfl; have z6 := frozen_of_row _ (w.heap.size + 1) 6 _ _ g2.out; have e7 := World.cell?_of_row g2.out 7 q7 rfl; have z7 := frozen_of_row _ (w.heap.size + 1) 7 _ _ g2.out; have g4 := Lib.hid ((chg8 (.slice (some ⟨w4.heap.size, 0, none⟩) 7 7) (.int .i64 (K : Int)) (.slice s.N s.nums.length s.nc) (.slice X3 xn3 xc3) (.slice VP m.bits.length cp) (.slice VS m.syms.length vsc) (.slice VC NN vcc) (.slice TA TX.length tc) (w.heap.size + 1) y6).row T13.out.v4 (by omega)))
                    | fail)
                have G := row8 (.slice (some ⟨w4.heap.size, 0, none⟩) 7 7) (.int .i64 (K : Int)) (.slice s.N s.nums.length s.nc) (.slice X3 xn3 xc3) (.slice VP m.bits.length cp) (.slice VS m.syms.length vsc) (.slice VC NN vcc) (.slice TA TX.length tc) q0 q1 q2 q3 q4 q5 q6 q7 (w.heap.size + 1) y6 36 g2.out
                have C8 := chg8 (.slice (some ⟨w4.heap.size, 0, none⟩) 7 7) (.int .i64 (K : Int)) (.slice s.N s.nums.length s.nc) (.slice X3 xn3 xc3) (.slice VP m.bits.length cp) (.slice VS m.syms.length vsc) (.slice VC NN vcc) (.slice TA TX.length tc) (w.heap.size + 1) y6
                obtain ⟨w9, e9⟩ : ∃ w', ((((((((y6.setCell ⟨w.heap.size + 1, 0, none⟩ (.slice (some ⟨w4.heap.size, 0, none⟩) 7 7)).setCell ⟨w.heap.size + 1, 1, none⟩ (.int .i64 (K : Int))).setCell ⟨w.heap.size + 1, 2, none⟩ (.slice s.N s.nums.length s.nc)).setCell ⟨w.heap.size + 1, 3, none⟩ (.slice X3 xn3 xc3)).setCell ⟨w.heap.size + 1, 4, none⟩ (.slice VP m.bits.length cp)).setCell ⟨w.heap.size + 1, 5, none⟩ (.slice VS m.syms.length vsc)).setCell ⟨w.heap.size + 1, 6, none⟩ (.slice VC NN vcc)).setCell ⟨w.heap.size + 1, 7, none⟩ (.slice TA TX.length tc)) = w' := ⟨_, rfl⟩
                rw [e9] at G C8 ⊢
                have K9 : Keeps 36 y6 w9 := Keeps.of_chg C8 (fun k _ hk => ⟨([q0, q1, q2, q3, q4, q5, q6, q7] : List Value).toArray, (0, 0), by rw [hk]; exact g2.out⟩)
                have bw := Lib.hid (T13.out.b.trans ((C8.below (B := w.heap.size) T13.out.b.size (fun k hk e => by omega))))
                have own9 := owns_keeps T13.out.p K9 (by decide)
                obtain ⟨VP', cp', eP, RP, -⟩ := RT.of_owns own9
                simp only [Value.slice.injEq, true_and] at eP
                obtain ⟨rfl, rfl⟩ := eP
                replace RP := Lib.hid RP.rc
                have eF : (preB m ++ hdrB m ++ m.opt ++ E0.heads) ++ r3 = fileB m := by
                  have e1 : secE m = E0 := hE0.out
                  unfold fileB tailB
                  rw [e1, heq.out, hTX.out, ← er3.out, ← er2.out, ← hR1.out]
                  simp only [List.append_assoc]
                have own10 := own6.out
                rw [eF] at own10
                obtain ⟨-, A6, c6, rfl, R6, hc6, -, hA6, -⟩ := RB.of_owns own10
                have R9 := Lib.hid (R6.chg C8 (fun a ha e => by
                  have := (hA6 a ha).1
                  have h6 : w.heap.size + 1 + 1 < w6.heap.size := (Array.getElem?_eq_some_iff.1 T6.out.v4).1
                  have e' : a.block = w.heap.size + 1 := e
                  omega))
                replace G := Lib.hid G
                have hR9 := Lib.hid (hR.out.mono (R := RPart) (w' := w9) (fun _ _ h => h))
                clear g2 g4 C8 e9 K9 own9 own10 own6 T13 T12 own5 b5 b6 K6 c8 eF R6 hA6 RH RH7 T6 T7 bF ownF e0 e1 e2 e3 e4 e5 e6 e7 z0 z1 z2 z4 z5 z6 z7
                go_wp2
                refine bodyPost_ret (results_cell_tmp rfl _ _ (w.heap.size + 1) 36 #[.slice (some ⟨w4.heap.size, 0, none⟩) 7 7, .int .i64 (K : Int), .slice s.N s.nums.length s.nc, .slice X3 xn3 xc3, .slice VP m.bits.length cp, .slice VS m.syms.length vsc, .slice VC NN vcc, .slice TA TX.length tc] (0, 0) _ rfl G.out Tryz.underlying36 rfl (by kernel_rfl)) rfl ?_
                unfold PeOfQ
                rw [hnn.out]
                exact ⟨_, _, _, _, _, _, VP, cp, VC, vcc, A6, c6, pcs, rfl, hc6, R9, RP, hR9, bw.out, List.all_eq_true.1 rfl⟩
              --]T
end Go.Proofs.YtbpebngjpecncaaGreatDoor

