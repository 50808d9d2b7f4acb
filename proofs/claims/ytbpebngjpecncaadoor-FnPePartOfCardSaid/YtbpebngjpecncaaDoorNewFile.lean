/-
  pe.NewFile over bytes that are as the reader wants them.
-/
import Derived.Test.YtbpebngjpecncaaDoorNFS
import Derived.Deep.CutRange
import Derived.Deep.RegionLaw
import Derived.Deep.CutBlock
import Derived.StillTailTactics
namespace Go.Proofs.YtbpebngjpecncaaDoor
set_option linter.unusedVariables false
set_option linter.unusedSimpArgs false
set_option maxRecDepth 100000
open Go Go.RowKit
attribute [local go_sem ↓] Go.wp_at_zero Go.wp_at_succ

set_option maxHeartbeats 40000000 in
theorem newFile_any (R n c : Nat) (A : Option Addr) (l : List UInt8) (f : FL) (w : World) (hN : Hid (n = l.length)) (hnc : n ≤ c) (hR : Hid (w.heap[R]? = some (.cells #[.slice A n c, .int .i64 0, .int .i64 (-1)] 128 (0, 0)))) (hA : Hid (RB w A l)) (hF : Hid (FileOk l f)) :
    Calls Tryd.prog 24 #[.iface 83 (.pointer (some ⟨R, 0, none⟩))] w (FilePost w l f) := by
  have hn1 : ∀ w, (nilAhead 333 83 (.pointer (some ⟨R, 0, none⟩)) "ReadAt").run Tryd.prog w = .ok (some false) w := fun w => nilReadAt _ ⟨R, 0, none⟩ w
  have hm1 : ∀ w, (method 333 83 (.pointer (some ⟨R, 0, none⟩)) "ReadAt").run Tryd.prog w = .ok (105, .pointer (some ⟨R, 0, none⟩)) w := fun w => methodReadAt _ ⟨R, 0, none⟩ w
  have hb96 : 96 ≤ n := by rw [hN.out]; exact hF.out.big
  have hb5 : n ≤ 100000 := by rw [hN.out]; exact hF.out.small
  go_enter Tryd.func24, Tryd.ntmps24
  go_wp2_with fail
  refine (newWhole R _).mono ?_
  rintro e w' ⟨rfl, rfl⟩
  go_upto_region 4 with fail
  have hD : ∀ k, DR R A k → k < w.heap.size := fun k hk => by
    rcases hk with rfl | ⟨a, ha, rfl⟩
    · exact (Array.getElem?_eq_some_iff.1 hR.out).1
    · subst ha
      obtain ⟨b, o, e⟩ := hA.out.addr (by rw [← hN.out]; omega)
      have hA' := hA.out
      rw [e] at hA'
      have := hA'.lt (by rw [← hN.out]; omega)
      simp only [Option.some.injEq] at e
      rw [e]
      exact this
  obtain ⟨w3, e3⟩ : ∃ w3, (((w.alloc (.cells #[.int .u16 0, .int .u16 0, .int .u32 0, .int .u32 0, .int .u32 0, .int .u16 0, .int .u16 0, .nilIface, .slice none 0 0, .slice none 0 0, .slice none 0 0, .slice none 0 0] 78)).alloc (.cells (secRow R 0).toArray 131)).alloc (.cells Tryd.zeroCells96 96)) = w3 := ⟨_, rfl⟩
  have z3 : w3.heap.size = w.heap.size + 3 := by rw [← e3]; simp
  have b3 : Below w.heap.size w w3 := by rw [← e3]; exact (((Below.refl _ w).alloc (Nat.le_refl _) _).alloc (by simp) _).alloc (by simp; omega) _
  have gD : Hid (w3.heap[w.heap.size + 1 + 1]? = some (.cells Tryd.zeroCells96.toList.toArray 96 (0, 0))) := Lib.hid (by
    have : w.heap.size + 1 + 1 = ((w.alloc (.cells #[.int .u16 0, .int .u16 0, .int .u32 0, .int .u32 0, .int .u32 0, .int .u16 0, .int .u16 0, .nilIface, .slice none 0 0, .slice none 0 0, .slice none 0 0, .slice none 0 0] 78)).alloc (.cells (secRow R 0).toArray 131)).heap.size := by simp
    rw [this, ← e3, Array.toArray_toList]
    exact heap_alloc_new _ _)
  have gM : w3.heap[w.heap.size + 1]? = some (.cells (secRow R 0).toArray 131 (0, 0)) := by
    have : w.heap.size + 1 = (w.alloc (.cells #[.int .u16 0, .int .u16 0, .int .u32 0, .int .u32 0, .int .u32 0, .int .u16 0, .int .u16 0, .nilIface, .slice none 0 0, .slice none 0 0, .slice none 0 0, .slice none 0 0] 78)).heap.size := by simp
    rw [this, ← e3, heap_alloc_old _ _ (by simp)]
    exact heap_alloc_new _ _
  have gF : w3.heap[w.heap.size]? = some (.cells ([.int .u16 0, .int .u16 0, .int .u32 0, .int .u32 0, .int .u32 0, .int .u16 0, .int .u16 0, .nilIface, .slice none 0 0, .slice none 0 0, .slice none 0 0, .slice none 0 0] : List Value).toArray 78 (0, 0)) := by
    rw [← e3, heap_alloc_old _ _ (by simp; omega), heap_alloc_old _ _ (by simp)]
    exact heap_alloc_new _ _
  have hR3 : Hid (w3.heap[R]? = some (.cells #[.slice A n c, .int .i64 0, .int .i64 (-1)] 128 (0, 0))) := Lib.hid ((b3.block R (hD R (.inl rfl))).trans hR.out)
  have hA3 : Hid (RB w3 A l) := Lib.hid (hA.out.later b3)
  have N3 : Hid (NS w w3 w.heap.size (w.heap.size + 1) R A l [.int .u16 0, .int .u16 0, .int .u32 0, .int .u32 0, .int .u32 0, .int .u16 0, .int .u16 0, .nilIface, .slice none 0 0, .slice none 0 0, .slice none 0 0, .slice none 0 0]) := Lib.hid (by
    refine ⟨⟨0, ?_, by omega, by omega, fun k hk => ⟨by have := hD k hk; omega, by have := hD k hk; omega⟩, .inr ⟨R, A, n, c, _, _, rfl, hN.out, hnc, .inl rfl, gM, hR3.out, hA3.out, fun a ha => .inr ⟨a, ha, rfl⟩⟩⟩, gF, b3, Nat.le_refl _, by omega, by omega, hD⟩
    rw [← hN.out]
    omega)
  have CALL : Hid (∀ q, Calls Tryd.prog 105 #[.pointer (some ⟨R, 0, none⟩), .slice (some ⟨w.heap.size + 1 + 1, 0, none⟩) 96 96, .int .i64 0] (w3.drewN q) fun e w' => e = .returned (.tuple #[.int .i64 96, .nilIface]) ∧
      Hid (w'.heap[w.heap.size + 1 + 1]? = some (.cells (((l.drop 0).take 96).map bv).toArray 96 (0, 0))) ∧ Chg (· = w.heap.size + 1 + 1) w3 w' ∧ w'.heap.size = w3.heap.size) := Lib.hid (fun q =>
    (bytesReadAt_all R (w.heap.size + 1 + 1) 0 96 96 A l n c _ _ 96 Tryd.zeroCells96.toList (w3.drewN q) hN (by omega) (by omega) (by omega) hnc (by exact hR3) (Lib.hid (hA3.out.drewN q)) (by exact gD) (Lib.hid (by kernel_rfl))).mono fun e w' ⟨h1, h2, h3, h4⟩ => ⟨h1, h2, ⟨h3.os, h3.tape, h3.output, h3.size, h3.block⟩, h4⟩)
  replace b3 := Lib.hid b3
  replace hD := Lib.hid hD
  replace z3 := Lib.hid z3
  rw [e3]
  clear e3 gD gM gF
  go_region_held3 (fun w' => True) (trivial) (first | (go_at_call 105; refine (CALL.out _).mono ?_; rintro e w4 ⟨rfl, g4, C4, z4⟩))
  have N4 : Hid (NS w w4 w.heap.size (w.heap.size + 1) R A l [.int .u16 0, .int .u16 0, .int .u32 0, .int .u32 0, .int .u32 0, .int .u16 0, .int .u16 0, .nilIface, .slice none 0 0, .slice none 0 0, .slice none 0 0, .slice none 0 0]) := Lib.hid (N3.out.chgS C4 (by show ¬ w.heap.size = _; omega) (by show ¬ w.heap.size + 1 = _; omega) (fun k e => by have e' : k = w.heap.size + 1 + 1 := e; omega))
  have hA4 : Hid (RB w4 A l) := Lib.hid (hA3.out.chg C4 (fun a ha e => by have := hD.out a.block (.inr ⟨a, ha, rfl⟩); have e' : a.block = w.heap.size + 1 + 1 := e; omega))
  have hR4 : Hid (w4.heap[R]? = some (.cells #[.slice A n c, .int .i64 0, .int .i64 (-1)] 128 (0, 0))) := Lib.hid (C4.row hR3.out (fun e => by have := hD.out R (.inl rfl); have e' : R = w.heap.size + 1 + 1 := e; omega))
  have hz4 : Hid (w4.heap.size = w.heap.size + 3) := Lib.hid (by rw [z4, z3.out])
  obtain ⟨x, y, r0, hl, hxy⟩ : ∃ x y r, l = x :: y :: r ∧ ((f.base = 0 ∧ ¬ (x.toNat = 77 ∧ y.toNat = 90)) ∨ (f.base ≠ 0 ∧ x.toNat = 77 ∧ y.toNat = 90)) := by
    rcases hF.out.dos with ⟨h0, x, y, r, hl, hxy⟩ | ⟨s, r, -, hb, -, hl, -, -⟩
    · exact ⟨x, y, r, hl, .inl ⟨h0, hxy⟩⟩
    · exact ⟨77, 90, r, hl, .inr ⟨by omega, rfl, rfl⟩⟩
  have c0 : w4.cell? ⟨w.heap.size + 1 + 1, 0, none⟩ = some (.int .u8 (x.toNat : Int)) := World.cell?_of_row g4.out 0 _ (by rw [hl]; rfl)
  have c1 : w4.cell? ⟨w.heap.size + 1 + 1, 1, none⟩ = some (.int .u8 (y.toNat : Int)) := World.cell?_of_row g4.out 1 _ (by rw [hl]; rfl)
  clear hl CALL C4 z4 N3 hA3 hR3 hA hR z3 b3
  go_upto_region 8 with fail
  go_cut [47] from 40 to 47 (fun c47 wx => c47 = .bool (decide (f.base ≠ 0)) ∧ w4 = wx)
  case first =>
    rcases hxy with ⟨hb, hxy⟩ | ⟨hb, hx, hy⟩
    · have hd : decide (f.base ≠ 0) = false := by simp [hb]
      by_cases hx : x.toNat = 77
      · have hx' : ((x.toNat : Int) == 77) = true := by rw [beq_iff_eq]; omega
        have hy' : ((y.toNat : Int) == 90) = false := by rw [beq_eq_false_iff_ne]; omega
        clear hx hxy hb
        go_wp2_with fail
        go_meet
        case rel => exact ⟨by rw [hd], rfl⟩
      · have hx' : ((x.toNat : Int) == 77) = false := by rw [beq_eq_false_iff_ne]; omega
        clear hx hxy hb
        go_wp2_with fail
        go_meet
        case rel => exact ⟨by rw [hd], rfl⟩
    · have hd : decide (f.base ≠ 0) = true := by simp [hb]
      have hx' : ((x.toNat : Int) == 77) = true := by rw [beq_iff_eq]; omega
      have hy' : ((y.toNat : Int) == 90) = true := by rw [beq_iff_eq]; omega
      clear hx hy hb
      go_wp2_with fail
      go_meet
      case rel => exact ⟨by rw [hd], rfl⟩
  case rest =>
    obtain ⟨rfl, rfl⟩ := hcut
    clear hxy c0 c1
    go_upto_if 47 with fail
    go_cut [9, 10, 11, 12, 13] from 47 to 85 (fun c9 c10 c11 c12 c13 wx => c9 = .int .i64 (f.base : Int) ∧ Hid (NS w wx w.heap.size (w.heap.size + 1) R A l [.int .u16 0, .int .u16 0, .int .u32 0, .int .u32 0, .int .u32 0, .int .u16 0, .int .u16 0, .nilIface, .slice none 0 0, .slice none 0 0, .slice none 0 0, .slice none 0 0]))
    case first =>
      --[S
      by_cases hb : f.base = 0
      · have hd : decide (f.base ≠ 0) = false := by simp [hb]
        rw [hd]
        clear hd
        go_wp2_with fail
        go_meet
        case rel => exact ⟨by rw [hb]; rfl, N4⟩
      · have hd : decide (f.base ≠ 0) = true := by simp [hb]
        rw [hd]
        obtain ⟨s, hs64, hbs, hs4, hnum, hsig⟩ : ∃ s, 64 ≤ s ∧ Hid (f.base = s + 4) ∧ s + 4 ≤ n ∧ Hid (num false ((l.drop 60).take 4) = s) ∧ Hid ((l.drop s).take 4 = [80, 69, 0, 0]) := by
          rcases hF.out.dos with ⟨h0, -⟩ | ⟨s, r, h64, h1, h2, h3, h4, h5⟩
          · exact absurd h0 hb
          · exact ⟨s, h64, Lib.hid h1, by rw [hN.out]; exact h2, Lib.hid h4, Lib.hid h5⟩
        have RBD : Hid (RB w4 (some ⟨w.heap.size + 1 + 1, 60, none⟩) ((((l.drop 0).take 96).drop 60))) := Lib.hid (by
          have := (RB.of_row g4.out).drop (c := 96) (by simp; omega) 60
          rwa [slA_some _ _ _ _ (by omega), Nat.zero_add] at this)
        have hl36 : Hid (4 ≤ (((l.drop 0).take 96).drop 60).length) := Lib.hid (by have := hN.out; simp; omega)
        have hnum' : Hid (num false ((((l.drop 0).take 96).drop 60).take 4) = s) := Lib.hid (by
          rw [← hnum.out, List.drop_zero, List.drop_take, List.take_take]
          rfl)
        clear hd hb
        go_wp2_with fail
        refine (u32_RB false (w.heap.size + 1 + 1) 60 36 36 (((l.drop 0).take 96).drop 60) w4 RBD.out hl36.out (by omega) (by omega)).mono ?_
        rintro e w' ⟨rfl, q, rfl⟩
        rw [hnum'.out]
        have Nq : Hid (NS w (w4.drewN q) w.heap.size (w.heap.size + 1) R A l [.int .u16 0, .int .u16 0, .int .u32 0, .int .u32 0, .int .u32 0, .int .u16 0, .int .u16 0, .nilIface, .slice none 0 0, .slice none 0 0, .slice none 0 0, .slice none 0 0]) := Lib.hid (N4.out.later (below_drewN (Below.refl _ w4) q))
        clear RBD hl36 hnum' N4 g4
        go_upto_region 11 with fail
        obtain ⟨w5, e5⟩ : ∃ w5, (w4.drewN q).alloc (.cells #[.int .u8 0, .int .u8 0, .int .u8 0, .int .u8 0] 101) = w5 := ⟨_, rfl⟩
        have b5 : Below w4.heap.size w4 w5 := by rw [← e5]; exact (below_drewN (Below.refl _ w4) q).alloc (Nat.le_refl _) _
        have N5 : Hid (NS w w5 w.heap.size (w.heap.size + 1) R A l [.int .u16 0, .int .u16 0, .int .u32 0, .int .u32 0, .int .u32 0, .int .u16 0, .int .u16 0, .nilIface, .slice none 0 0, .slice none 0 0, .slice none 0 0, .slice none 0 0]) := Lib.hid (by rw [← e5]; exact Nq.out.later ((Below.refl _ _).alloc (Nat.le_refl _) _))
        have hA5 : Hid (RB w5 A l) := Lib.hid (hA4.out.later b5)
        have hR5 : Hid (w5.heap[R]? = some (.cells #[.slice A n c, .int .i64 0, .int .i64 (-1)] 128 (0, 0))) := row_later b5 hR4
        have gS : Hid (w5.heap[w4.heap.size]? = some (.cells ([.int .u8 0, .int .u8 0, .int .u8 0, .int .u8 0] : List Value).toArray 101 (0, 0))) := Lib.hid (by rw [← e5]; exact heap_alloc_new (w4.drewN q) _)
        have CALL : Hid (∀ q, Calls Tryd.prog 105 #[.pointer (some ⟨R, 0, none⟩), .slice (some ⟨w4.heap.size, 0, none⟩) 4 4, .int .i64 s] (w5.drewN q) fun e w' => e = .returned (.tuple #[.int .i64 4, .nilIface]) ∧
          Hid (w'.heap[w4.heap.size]? = some (.cells (((l.drop s).take 4).map bv).toArray 101 (0, 0))) ∧ Chg (· = w4.heap.size) w5 w' ∧ w'.heap.size = w5.heap.size) := Lib.hid (fun q =>
          (bytesReadAt_all R w4.heap.size s 4 4 A l n c _ _ 101 [.int .u8 0, .int .u8 0, .int .u8 0, .int .u8 0] (w5.drewN q) hN (by omega) (by omega) (by omega) hnc (by exact hR5) (Lib.hid (hA5.out.drewN q)) (by exact gS) (Lib.hid rfl)).mono fun e w' ⟨h1, h2, h3, h4⟩ => ⟨h1, h2, ⟨h3.os, h3.tape, h3.output, h3.size, h3.block⟩, h4⟩)
        rw [e5]
        clear e5 b5 Nq hA5 hR5 gS
        go_region_held3 (fun w' => True) (trivial) (first | (go_at_call 105; refine (CALL.out _).mono ?_; rintro e w6 ⟨rfl, g6, C6, z6⟩))
        rw [hsig.out] at g6
        have N6 : Hid (NS w w6 w.heap.size (w.heap.size + 1) R A l [.int .u16 0, .int .u16 0, .int .u32 0, .int .u32 0, .int .u32 0, .int .u16 0, .int .u16 0, .nilIface, .slice none 0 0, .slice none 0 0, .slice none 0 0, .slice none 0 0]) := Lib.hid (N5.out.chgS C6 (by show ¬ w.heap.size = _; have := hz4.out; omega) (by show ¬ w.heap.size + 1 = _; have := hz4.out; omega) (fun k e => by have e' : k = w4.heap.size := e; have := hz4.out; omega))
        have k0 : w6.cell? ⟨w4.heap.size, 0, none⟩ = some (.int .u8 80) := World.cell?_of_row g6.out 0 _ rfl
        have k1 : w6.cell? ⟨w4.heap.size, 1, none⟩ = some (.int .u8 69) := World.cell?_of_row g6.out 1 _ rfl
        have k2 : w6.cell? ⟨w4.heap.size, 2, none⟩ = some (.int .u8 0) := World.cell?_of_row g6.out 2 _ rfl
        have k3 : w6.cell? ⟨w4.heap.size, 3, none⟩ = some (.int .u8 0) := World.cell?_of_row g6.out 3 _ rfl
        clear CALL C6 z6 N5 g6 hA4 hR4 hz4 hn1 hm1
        go_wp2_with fail
        go_meet
        case rel => exact ⟨by rw [hbs.out, Int.natCast_add]; rfl, N6⟩
      --]S
    case rest =>
      obtain ⟨rfl, N5⟩ := hcut
      clear N4 g4 hA4 hR4 hz4 hn1 hm1
      have hhl := hF.out.hl
      have hbl : f.base ≤ 100000 := by have := hN.out; omega
      have hh20 : Hid (f.base + 20 ≤ l.length) := Lib.hid (by omega)
      obtain ⟨p0, hp0⟩ := N5.out.r
      have R5 := Lib.hid hp0
      clear hp0 hhl
      go_wp2_with fail
      refine (secSeek (w.heap.size + 1) p0 f.base (DR R A) l wc (by omega) R5).mono ?_
      rintro e w6 ⟨rfl, R6, C6, z6⟩
      have N6 := Lib.hid (N5.out.chg C6 (Lib.hid ⟨_, R6.out⟩))
      have gF6 : Hid (w6.heap[w.heap.size]? = some (.cells (([] : List Value) ++ (([.int .u16 0, .int .u16 0, .int .u32 0, .int .u32 0, .int .u32 0, .int .u16 0, .int .u16 0] : List Value) ++ ([.nilIface, .slice none 0 0, .slice none 0 0, .slice none 0 0, .slice none 0 0] : List Value))).toArray 78 (0, 0))) := Lib.hid N6.out.f
      clear C6 z6 R5 N5
      go_wp2_with fail
      refine (readGFileHeader_all w.heap.size (w.heap.size + 1) [] [.nilIface, .slice none 0 0, .slice none 0 0, .slice none 0 0, .slice none 0 0] 0 (secV (w.heap.size + 1)) (DR R A) l f.base false 78 w6 (Lib.hid rfl) R6 hh20 (by omega) (Lib.hid (fun e => by have := hD.out _ e; omega)) gF6).mono ?_
      rintro e w7 ⟨rfl, R7, V7, C7⟩
      rw [hF.out.hdr] at V7
      have N7 : Hid (NS w w7 w.heap.size (w.heap.size + 1) R A l [.int .u16 f.mach, .int .u16 f.names.length, .int .u32 f.time, .int .u32 f.place, .int .u32 f.n, .int .u16 f.optn, .int .u16 f.flags, .nilIface, .slice none 0 0, .slice none 0 0, .slice none 0 0, .slice none 0 0]) := Lib.hid ⟨⟨_, R7.out⟩, V7.out, N6.out.b.trans (C7.below N6.out.b.size (fun k hk e => by rcases e with e | e <;> omega)), Nat.le_refl _, by omega, by omega, hD.out⟩
      clear C7 V7 R7 R6 gF6 N6
      have f0 := World.cell?_of_row N7.out.f 0 (.int .u16 f.mach) rfl
      go_upto_block 0 with fail
      clear f0
      go_cut [] from 98 to 112 (fun wx => w7 = wx)
      case first =>
        --[M
        have hm := hF.out.mach
        simp only [machL, List.mem_cons, List.not_mem_nil, or_false] at hm
        rcases hm with e | e | e | e | e | e | e | e
        all_goals
          go_wp2_with fail
          go_meet
          case rel => exact rfl
        --]M
      case rest =>
        obtain rfl := hcut
        have hpl := hF.out.plc
        have hn3 := hF.out.n300
        have hp0 := hF.out.pl0
        have hpl2 : f.place + 18 * f.n ≤ 100000 := by have := hN.out; omega
        have hfl : Hid (f.place + 18 * f.n ≤ l.length) := Lib.hid hpl
        clear hpl
        obtain ⟨p1, hp1⟩ := N7.out.r
        have R7 := Lib.hid hp1
        clear hp1
        have f3 : w7.cell? ⟨w.heap.size, 3, none⟩ = some (.int .u32 f.place) := World.cell?_of_row N7.out.f 3 _ rfl
        have f4 : w7.cell? ⟨w.heap.size, 4, none⟩ = some (.int .u32 f.n) := World.cell?_of_row N7.out.f 4 _ rfl
        go_wp2_with fail
        refine (stringTable_some w.heap.size 0 f.place f.n (f.place + 18 * f.n) (w.heap.size + 1) (DR R A) l f.texts p1 w7 R7 (by omega) (by omega) (by omega) (by omega) (Lib.hid (by have := hN.out; omega)) f3 f4 hF.out.txt).mono ?_
        rintro e w8 ⟨⟨TA, tc, rfl, htc, hTA, hTA2⟩, R8, C8⟩
        have N8 := Lib.hid (N7.out.chg C8 R8)
        have T8 : Hid (TX w8 w.heap.size (w.heap.size + 1) TA f.texts) := Lib.hid (TX.new hTA.out hTA2 N7.out.F_lt N7.out.M_lt)
        have c11 := World.cell?_of_row N8.out.f 11 (.slice none 0 0) rfl
        have g11 := frozen_of_row _ w.heap.size 11 _ _ N8.out.f
        clear C8 R8 hTA hTA2 R7 f3 f4 N7
        go_upto_region 34 with fail
        have N9 : Hid (NS w (w8.setCell ⟨w.heap.size, 11, none⟩ (.slice TA f.texts.length tc)) w.heap.size (w.heap.size + 1) R A l [.int .u16 f.mach, .int .u16 f.names.length, .int .u32 f.time, .int .u32 f.place, .int .u32 f.n, .int .u16 f.optn, .int .u16 f.flags, .nilIface, .slice none 0 0, .slice none 0 0, .slice none 0 0, .slice TA f.texts.length tc]) := Lib.hid (N8.out.set 11 (.slice TA f.texts.length tc))
        have T9 := Lib.hid (T8.out.chgS ((Chg.refl (· = w.heap.size) w8).setCell ⟨w.heap.size, 11, none⟩ (.slice TA f.texts.length tc) (.inl rfl)) (fun k e => .inl e))
        obtain ⟨w9, e9⟩ : ∃ w9, w8.setCell ⟨w.heap.size, 11, none⟩ (.slice TA f.texts.length tc) = w9 := ⟨_, rfl⟩
        rw [e9] at N9 T9 ⊢
        clear e9 N8 T8 c11 g11
        have f3 : w9.cell? ⟨w.heap.size, 3, none⟩ = some (.int .u32 f.place) := World.cell?_of_row N9.out.f 3 _ rfl
        have f4 : w9.cell? ⟨w.heap.size, 4, none⟩ = some (.int .u32 f.n) := World.cell?_of_row N9.out.f 4 _ rfl
        go_wp2_with fail
        refine (symsAny w.heap.size 0 f.place f.n (w.heap.size + 1) (DR R A) l w9 (Lib.hid N9.out.r) hp0 (by omega) (by omega) (by omega) f3 f4 hfl (Lib.hid hF.out.fin)).mono ?_
        rintro e w10 ⟨⟨cv, rfl, ownC⟩, R10, C10⟩
        have N10 := Lib.hid (N9.out.chg C10 R10)
        have T10 := Lib.hid (T9.out.chgS C10 (fun k e => .inr (.inl e)))
        have O10 : Hid (CO w w10 w.heap.size (w.heap.size + 1) cv f.n (symRow (l.drop f.place) f.n)) := Lib.hid ⟨⟨_, ownC.out, N9.out.F_lt, N9.out.M_lt, N9.out.b.size⟩⟩
        obtain ⟨VC, cc, rfl, -⟩ := RT.of_owns ownC.out
        have c10 := World.cell?_of_row N10.out.f 10 (.slice none 0 0) rfl
        have g10 := frozen_of_row _ w.heap.size 10 _ _ N10.out.f
        clear C10 R10 ownC f3 f4 N9 T9
        go_upto_region 37 with fail
        have N11 : Hid (NS w (w10.setCell ⟨w.heap.size, 10, none⟩ (.slice VC f.n cc)) w.heap.size (w.heap.size + 1) R A l [.int .u16 f.mach, .int .u16 f.names.length, .int .u32 f.time, .int .u32 f.place, .int .u32 f.n, .int .u16 f.optn, .int .u16 f.flags, .nilIface, .slice none 0 0, .slice none 0 0, .slice VC f.n cc, .slice TA f.texts.length tc]) := Lib.hid (N10.out.set 10 (.slice VC f.n cc))
        have T11 := Lib.hid (T10.out.chgS ((Chg.refl (· = w.heap.size) w10).setCell ⟨w.heap.size, 10, none⟩ (.slice VC f.n cc) (.inl rfl)) (fun k e => .inl e))
        have O11 := Lib.hid (O10.out.chgS ((Chg.refl (· = w.heap.size) w10).setCell ⟨w.heap.size, 10, none⟩ (.slice VC f.n cc) (.inl rfl)) (fun k e => .inl e))
        obtain ⟨w11, e11⟩ : ∃ w11, w10.setCell ⟨w.heap.size, 10, none⟩ (.slice VC f.n cc) = w11 := ⟨_, rfl⟩
        rw [e11] at N11 T11 O11 ⊢
        clear e11 N10 T10 O10 c10 g10
        have k10 : w11.cell? ⟨w.heap.size, 10, none⟩ = some (.slice VC f.n cc) := World.cell?_of_row N11.out.f 10 _ rfl
        have k11 : w11.cell? ⟨w.heap.size, 11, none⟩ = some (.slice TA f.texts.length tc) := World.cell?_of_row N11.out.f 11 _ rfl
        have CALL : Hid (∀ q, Calls Tryd.prog 34 #[.slice VC f.n cc, .slice TA f.texts.length tc] (w11.drewN q) fun e w' => (∃ V k c, e = .returned (.tuple #[.slice V k c, .nilIface])) ∧ Below w11.heap.size w11 w') := Lib.hid (fun q => by
          obtain ⟨B, hB, -⟩ := O11.out.own
          refine (remAny (.slice VC f.n cc) B f.n (l.drop f.place) TA f.texts tc (w11.drewN q) hF.out.n300 (Lib.hid (by exact hB)) (Lib.hid hF.out.sym) (Lib.hid (T11.out.rb.drewN q)) htc (by have := hF.out.txl; omega)).mono ?_
          rintro e w' ⟨he, hb⟩
          exact ⟨he, ⟨hb.os, hb.tape, hb.output, hb.size, hb.block⟩⟩)
        go_upto_region 39 with fail
        go_region_held3 (fun w' => w'.cell? ⟨w.heap.size, 10, none⟩ = some (.slice VC f.n cc) ∧ w'.cell? ⟨w.heap.size, 11, none⟩ = some (.slice TA f.texts.length tc))
          (first | exact ⟨k10, k11⟩ | exact K12.out | exact K13.out | go_keep)
          (first
            | (go_at_call 34; refine (CALL.out _).mono ?_; rintro e w12 ⟨⟨sA, sn, sc, rfl⟩, b12⟩; have N12 := Lib.hid (N11.out.later b12); have T12 := Lib.hid (T11.out.later b12); have O12 := Lib.hid (O11.out.later b12); have K12 : Hid (w12.cell? ⟨w.heap.size, 10, none⟩ = some (.slice VC f.n cc) ∧ w12.cell? ⟨w.heap.size, 11, none⟩ = some (.slice TA f.texts.length tc)) := Lib.hid ⟨World.cell?_of_row N12.out.f 10 _ rfl, World.cell?_of_row N12.out.f 11 _ rfl⟩; have c9 := World.cell?_of_row N12.out.f 9 (.slice none 0 0) rfl; have g9 := frozen_of_row _ w.heap.size 9 _ _ N12.out.f; have M13 := N12.out.set 9 (.slice sA sn sc); have K13 : Hid ((w12.setCell ⟨w.heap.size, 9, none⟩ (.slice sA sn sc)).cell? ⟨w.heap.size, 10, none⟩ = some (.slice VC f.n cc) ∧ (w12.setCell ⟨w.heap.size, 9, none⟩ (.slice sA sn sc)).cell? ⟨w.heap.size, 11, none⟩ = some (.slice TA f.texts.length tc)) := Lib.hid ⟨World.cell?_of_row M13.f 10 _ rfl, World.cell?_of_row M13.f 11 _ rfl⟩; clear M13)
            | fail)
        have N13 : Hid (NS w (w12.setCell ⟨w.heap.size, 9, none⟩ (.slice sA sn sc)) w.heap.size (w.heap.size + 1) R A l [.int .u16 f.mach, .int .u16 f.names.length, .int .u32 f.time, .int .u32 f.place, .int .u32 f.n, .int .u16 f.optn, .int .u16 f.flags, .nilIface, .slice none 0 0, .slice sA sn sc, .slice VC f.n cc, .slice TA f.texts.length tc]) := Lib.hid (N12.out.set 9 (.slice sA sn sc))
        have T13 := Lib.hid (T12.out.chgS ((Chg.refl (· = w.heap.size) w12).setCell ⟨w.heap.size, 9, none⟩ (.slice sA sn sc) (.inl rfl)) (fun k e => .inl e))
        have O13 := Lib.hid (O12.out.chgS ((Chg.refl (· = w.heap.size) w12).setCell ⟨w.heap.size, 9, none⟩ (.slice sA sn sc) (.inl rfl)) (fun k e => .inl e))
        obtain ⟨w13, e13⟩ : ∃ w13, w12.setCell ⟨w.heap.size, 9, none⟩ (.slice sA sn sc) = w13 := ⟨_, rfl⟩
        rw [e13] at N13 T13 O13 ⊢
        clear e13 N12 T12 O12 N11 T11 O11 c9 g9 k10 k11 K12 K13 CALL b12
        obtain ⟨b20, hb20, hb20'⟩ : ∃ b20 : Nat, (f.base : Int) + 20 = (b20 : Int) ∧ Hid (b20 = f.base + 20) := ⟨f.base + 20, by omega, Lib.hid rfl⟩
        obtain ⟨p2, hp2⟩ := N13.out.r
        have R13 := Lib.hid hp2
        clear hp2
        go_wp2_with fail
        refine (secSeek (w.heap.size + 1) p2 b20 (DR R A) l w13 (by have := hb20'.out; omega) R13).mono ?_
        rintro e w14 ⟨rfl, R14, C14, z14⟩
        have N14 := Lib.hid (N13.out.chg C14 (Lib.hid ⟨_, R14.out⟩))
        have T14 := Lib.hid (T13.out.chgS C14 (fun k e => .inr (.inl e)))
        have O14 := Lib.hid (O13.out.chgS C14 (fun k e => .inr (.inl e)))
        clear C14 z14 R13 N13 T13 O13 hb20
        have f5 : w14.cell? ⟨w.heap.size, 5, none⟩ = some (.int .u16 f.optn) := World.cell?_of_row N14.out.f 5 _ rfl
        have hop : Hid (OptOk ((l.drop b20).take f.optn)) := Lib.hid (by rw [hb20'.out]; exact hF.out.opt)
        have hop2 : Hid (b20 + f.optn ≤ l.length) := Lib.hid (by have := hF.out.hl; have := hb20'.out; omega)
        go_wp2_with fail
        refine (optAny (w.heap.size + 1) f.optn b20 (DR R A) l w14 R14 hop hop2).mono ?_
        rintro e w15 ⟨⟨ov, rfl, hov⟩, R15, C15⟩
        have N15 := Lib.hid (N14.out.chg C15 (Lib.hid ⟨_, R15.out⟩))
        have T15 := Lib.hid (T14.out.chgS C15 (fun k e => .inr (.inl e)))
        have O15 := Lib.hid (O14.out.chgS C15 (fun k e => .inr (.inl e)))
        replace hov := Lib.hid hov
        clear C15 R14 N14 T14 O14 f5 hop hop2
        have hi20 : Hid ((Tryd.prog.info? 20).map (·.size) = some 1) := Lib.hid (by kernel_rfl)
        go_wp2_with (refine wpList_store_one rfl 20 (.tmp 184) (.tmp 181) rfl w.heap.size 7 78 [.int .u16 f.mach, .int .u16 f.names.length, .int .u32 f.time, .int .u32 f.place, .int .u32 f.n, .int .u16 f.optn, .int .u16 f.flags, .nilIface, .slice none 0 0, .slice sA sn sc, .slice VC f.n cc, .slice TA f.texts.length tc] ov rfl rfl N15.out.f (by simp) hi20.out hov.out ?_; refine Stop.mk ?_)
        refine Stop.go ?_
        have N16 : Hid (NS w (w15.setCell ⟨w.heap.size, 7, none⟩ ov) w.heap.size (w.heap.size + 1) R A l [.int .u16 f.mach, .int .u16 f.names.length, .int .u32 f.time, .int .u32 f.place, .int .u32 f.n, .int .u16 f.optn, .int .u16 f.flags, ov, .slice none 0 0, .slice sA sn sc, .slice VC f.n cc, .slice TA f.texts.length tc]) := Lib.hid (N15.out.set 7 ov)
        have T16 := Lib.hid (T15.out.chgS ((Chg.refl (· = w.heap.size) w15).setCell ⟨w.heap.size, 7, none⟩ ov (.inl rfl)) (fun k e => .inl e))
        have O16 := Lib.hid (O15.out.chgS ((Chg.refl (· = w.heap.size) w15).setCell ⟨w.heap.size, 7, none⟩ ov (.inl rfl)) (fun k e => .inl e))
        have R16 := Lib.hid (N15.out.rdrF R15.out 7 ov)
        obtain ⟨w16, e16⟩ : ∃ w16, w15.setCell ⟨w.heap.size, 7, none⟩ ov = w16 := ⟨_, rfl⟩
        rw [e16] at N16 T16 O16 R16 ⊢
        clear e16 R15 N15 T15 O15 hov hi20
        have f1 : w16.cell? ⟨w.heap.size, 1, none⟩ = some (.int .u16 f.names.length) := World.cell?_of_row N16.out.f 1 _ rfl
        have hnb := hF.out.nb
        have hmk := makeSecs f.names.length (by omega)
        have N17 := Lib.hid (N16.out.later ((Below.refl _ w16).alloc (Nat.le_refl _) (.cells (Array.replicate f.names.length (Value.pointer none)) 69)))
        have T17 := Lib.hid (T16.out.later ((Below.refl _ w16).alloc (Nat.le_refl _) (.cells (Array.replicate f.names.length (Value.pointer none)) 69)))
        have O17 := Lib.hid (O16.out.later ((Below.refl _ w16).alloc (Nat.le_refl _) (.cells (Array.replicate f.names.length (Value.pointer none)) 69)))
        have R17 := Lib.hid (R16.out.later ((Below.refl _ w16).alloc (Nat.le_refl _) (.cells (Array.replicate f.names.length (Value.pointer none)) 69)))
        have G17 := Lib.hid (heap_alloc_new w16 (.cells (Array.replicate f.names.length (Value.pointer none)) 69))
        have c8 := World.cell?_of_row N17.out.f 8 (.slice none 0 0) rfl
        have g8 := frozen_of_row _ w.heap.size 8 _ _ N17.out.f
        go_upto_region 49 with fail
        have C18 := (Chg.refl (· = w.heap.size) (w16.alloc (.cells (Array.replicate f.names.length (Value.pointer none)) 69))).setCell ⟨w.heap.size, 8, none⟩ (.slice (some ⟨w16.heap.size, 0, none⟩) f.names.length f.names.length) (.inl rfl)
        have N18 : Hid (NS w ((w16.alloc (.cells (Array.replicate f.names.length (Value.pointer none)) 69)).setCell ⟨w.heap.size, 8, none⟩ (.slice (some ⟨w16.heap.size, 0, none⟩) f.names.length f.names.length)) w.heap.size (w.heap.size + 1) R A l [.int .u16 f.mach, .int .u16 f.names.length, .int .u32 f.time, .int .u32 f.place, .int .u32 f.n, .int .u16 f.optn, .int .u16 f.flags, ov, .slice (some ⟨w16.heap.size, 0, none⟩) f.names.length f.names.length, .slice sA sn sc, .slice VC f.n cc, .slice TA f.texts.length tc]) := Lib.hid (N17.out.set 8 (.slice (some ⟨w16.heap.size, 0, none⟩) f.names.length f.names.length))
        have R18 := Lib.hid (N17.out.rdrF R17.out 8 (.slice (some ⟨w16.heap.size, 0, none⟩) f.names.length f.names.length))
        have T18 := Lib.hid (T17.out.chgS C18 (fun k e => .inl e))
        have O18 := Lib.hid (O17.out.chgS C18 (fun k e => .inl e))
        have G18 := Lib.hid (C18.row G17.out (by show ¬ w16.heap.size = w.heap.size; have := N16.out.F_lt; omega))
        obtain ⟨G, hG⟩ : ∃ G, w16.heap.size = G := ⟨_, rfl⟩
        have hGl : w.heap.size < G ∧ w.heap.size + 1 < G := ⟨by have := N16.out.F_lt; omega, by have := N16.out.M_lt; omega⟩
        have hTG : Hid (f.texts ≠ [] → ∀ a, TA = some a → a.block ≠ G) := Lib.hid (fun ht a ha => by have := (T16.out.at_ ht a ha).2.2; omega)
        rw [hG] at N18 T18 O18 G18 R18 C18 ⊢
        obtain ⟨w18, e18⟩ : ∃ w18, (w16.alloc (.cells (Array.replicate f.names.length (Value.pointer none)) 69)).setCell ⟨w.heap.size, 8, none⟩ (.slice (some ⟨G, 0, none⟩) f.names.length f.names.length) = w18 := ⟨_, rfl⟩
        rw [e18] at N18 T18 O18 G18 R18 ⊢
        clear e18 N17 T17 O17 R17 N16 T16 O16 R16 G17 C18 c8 g8 f1 hmk hG
        replace G18 : Hid (w18.heap[G]? = some (.cells ((([] : List Nat).map fun S => Value.pointer (some ⟨S, 0, none⟩)) ++ List.replicate (f.names.length - 0) (Value.pointer none)).toArray 69 (0, 0))) := Lib.hid (by simpa using G18.out)
        replace R18 : Hid (Rdr w18 (secV (w.heap.size + 1)) (w.heap.size + 1) (DR R A) l (f.base + 20 + f.optn + 40 * 0)) := Lib.hid (by rw [← hb20'.out]; exact R18.out)
        have S18 : Hid (SECS w w18 w.heap.size (w.heap.size + 1) G l f.names []) := Lib.hid ⟨Nat.zero_le _, fun k S name h => by simp at h, fun S h => by simp at h⟩
        clear hb20'
        go_wp2_with fail
        go_loopw [16, 17, 18, 19, 20, 21, 22] (fun c16 c17 c18 c19 c20 c21 c22 wx => ∃ (k : Nat) (bs : List Nat), k ≤ f.names.length ∧ c16 = .int .i64 k ∧ Hid (bs.length = k) ∧ Hid (NS w wx w.heap.size (w.heap.size + 1) R A l [.int .u16 f.mach, .int .u16 f.names.length, .int .u32 f.time, .int .u32 f.place, .int .u32 f.n, .int .u16 f.optn, .int .u16 f.flags, ov, .slice (some ⟨G, 0, none⟩) f.names.length f.names.length, .slice sA sn sc, .slice VC f.n cc, .slice TA f.texts.length tc]) ∧ Hid (Rdr wx (secV (w.heap.size + 1)) (w.heap.size + 1) (DR R A) l (f.base + 20 + f.optn + 40 * k)) ∧ Hid (TX wx w.heap.size (w.heap.size + 1) TA f.texts) ∧ Hid (CO w wx w.heap.size (w.heap.size + 1) (.slice VC f.n cc) f.n (symRow (l.drop f.place) f.n)) ∧
          Hid (wx.heap[G]? = some (.cells ((bs.map fun S => Value.pointer (some ⟨S, 0, none⟩)) ++ List.replicate (f.names.length - k) (Value.pointer none)).toArray 69 (0, 0))) ∧ Hid (SECS w wx w.heap.size (w.heap.size + 1) G l f.names bs)) (fun c16 _ _ _ _ _ _ _ => f.names.length - (intOf c16).toNat)
        case atStart => exact ⟨0, [], Nat.zero_le _, rfl, Lib.hid rfl, N18, R18, T18, O18, G18, S18⟩
        case round =>
          clear N18 R18 T18 O18 G18 S18
          obtain ⟨k, bs, hk, rfl, hbs, hNk, hRk, hTk, hOk, hGk, hSk⟩ := hrel
          have f1 : wr.cell? ⟨w.heap.size, 1, none⟩ = some (.int .u16 f.names.length) := World.cell?_of_row hNk.out.f 1 _ rfl
          have f8 : wr.cell? ⟨w.heap.size, 8, none⟩ = some (.slice (some ⟨G, 0, none⟩) f.names.length f.names.length) := World.cell?_of_row hNk.out.f 8 _ rfl
          by_cases hkn : k < f.names.length
          ·
            --[L1
            go_upto_region 53 with fail
            have hHM : w.heap.size + 1 < wr.heap.size := hNk.out.M_lt
            have hHF : w.heap.size < wr.heap.size := hNk.out.F_lt
            have hHG : G < wr.heap.size := (Array.getElem?_eq_some_iff.1 hGk.out).1
            obtain ⟨name, hname⟩ : ∃ name, f.names[k]? = some name := ⟨_, List.getElem?_eq_getElem hkn⟩
            obtain ⟨nm, v0, v1, v2, v3, v4, v5, v6, v7, v8, hsec, hnm8, hsn, hv2, hv3, hv4, hv6, hrel6⟩ := hF.out.secs k name hname
            obtain ⟨y0, y1, y2, y3, y4, y5, y6, y7, rfl⟩ := list8' hnm8.symm
            replace hname := Lib.hid hname
            replace hsn := Lib.hid hsn
            replace hnm8 := Lib.hid hnm8
            replace hrel6 := Lib.hid hrel6
            have R1 := Lib.hid (hRk.out.later ((Below.refl _ wr).alloc (Nat.le_refl _) (.cells #[.int .u8 0, .int .u8 0, .int .u8 0, .int .u8 0, .int .u8 0, .int .u8 0, .int .u8 0, .int .u8 0, .int .u32 0, .int .u32 0, .int .u32 0, .int .u32 0, .int .u32 0, .int .u32 0, .int .u16 0, .int .u16 0, .int .u32 0] 118)))
            have V1 := Lib.hid (heap_alloc_new wr (.cells #[.int .u8 0, .int .u8 0, .int .u8 0, .int .u8 0, .int .u8 0, .int .u8 0, .int .u8 0, .int .u8 0, .int .u32 0, .int .u32 0, .int .u32 0, .int .u32 0, .int .u32 0, .int .u32 0, .int .u16 0, .int .u16 0, .int .u32 0] 118))
            have hp40 : Hid (f.base + 20 + f.optn + 40 * k + 40 ≤ l.length) := Lib.hid (by have := hF.out.hl; omega)
            go_wp2_with fail
            refine (readSectionHeader32_all wr.heap.size (w.heap.size + 1) (secV (w.heap.size + 1)) (DR R A) l (f.base + 20 + f.optn + 40 * k) false 118 _ R1 hp40 (by omega) (Lib.hid (fun e => by have := hD.out _ e; omega)) V1).mono ?_
            rintro e w2 ⟨rfl, R2, V2, C2⟩
            rw [hsec] at V2
            have C02 : Hid (Chg (· = w.heap.size + 1) wr w2) := Lib.hid (((Chg.refl (· = w.heap.size + 1) wr).alloc _).trans (C2.mono (fun k _ e => e.imp id (fun e => Nat.le_of_eq e.symm))))
            have N2 := Lib.hid (hNk.out.chg C02.out (Lib.hid ⟨_, R2.out⟩))
            have T2 := Lib.hid (hTk.out.chgS C02.out (fun k e => .inr (.inl e)))
            have f11 := World.cell?_of_row N2.out.f 11 (.slice TA f.texts.length tc) rfl
            have htl := hF.out.txl
            clear C2 V1 R1 hp40 hsec
            go_wp2_with fail
            refine (secName_ok wr.heap.size [y0, y1, y2, y3, y4, y5, y6, y7] name [.int .u32 (v0 : Int), .int .u32 (v1 : Int), .int .u32 (v2 : Int), .int .u32 (v3 : Int), .int .u32 (v4 : Int), .int .u32 (v5 : Int), .int .u16 (v6 : Int), .int .u16 (v7 : Int), .int .u32 (v8 : Int)] 118 TA f.texts f.texts.length tc w2 hnm8 hsn (Lib.hid rfl) htc (by omega) (Lib.hid T2.out.rb) V2).mono ?_
            rintro e w3 ⟨rfl, b3⟩
            have b4 : Below w2.heap.size w2 (w3.alloc (.cells #[.string ⟨#[]⟩, .int .u32 0, .int .u32 0, .int .u32 0, .int .u32 0, .int .u32 0, .int .u32 0, .int .u16 0, .int .u16 0, .int .u32 0, .slice none 0 0, .nilIface, .pointer none] 92)) := b3.alloc b3.size _
            have z3 : wr.heap.size < w3.heap.size := by have := C02.out.size; have := b3.size; have := (Array.getElem?_eq_some_iff.1 V2.out).1; omega
            have R3 := Lib.hid (R2.out.later b4)
            have H4 : Hid (_) := row_later b4 V2
            have P4 : Hid ((w3.alloc (.cells #[.string ⟨#[]⟩, .int .u32 0, .int .u32 0, .int .u32 0, .int .u32 0, .int .u32 0, .int .u32 0, .int .u16 0, .int .u16 0, .int .u32 0, .slice none 0 0, .nilIface, .pointer none] 92)).heap[w3.heap.size]? = some (.cells ([.string ⟨#[]⟩, .int .u32 0, .int .u32 0, .int .u32 0, .int .u32 0, .int .u32 0, .int .u32 0, .int .u16 0, .int .u16 0, .int .u32 0, .slice none 0 0, .nilIface, .pointer none] : List Value).toArray 92 (0, 0))) := Lib.hid (heap_alloc_new w3 _)
            have C04 : Hid (Chg (· = w.heap.size + 1) wr (w3.alloc (.cells #[.string ⟨#[]⟩, .int .u32 0, .int .u32 0, .int .u32 0, .int .u32 0, .int .u32 0, .int .u32 0, .int .u16 0, .int .u16 0, .int .u32 0, .slice none 0 0, .nilIface, .pointer none] 92))) := Lib.hid (C02.out.trans (chg_of_new b4))
            replace b3 := Lib.hid b3
            clear R2 V2 N2 T2 f11 b4 hnm8 hsn
            go_upto_region 60 with fail
            obtain ⟨w4, e4⟩ : ∃ w4, w3.alloc (.cells #[.string ⟨#[]⟩, .int .u32 0, .int .u32 0, .int .u32 0, .int .u32 0, .int .u32 0, .int .u32 0, .int .u16 0, .int .u16 0, .int .u32 0, .slice none 0 0, .nilIface, .pointer none] 92) = w4 := ⟨_, rfl⟩
            rw [e4] at R3 H4 P4 C04 ⊢
            have z4 : w3.heap.size < w4.heap.size := (Array.getElem?_eq_some_iff.1 P4.out).1
            clear e4 b3
            have d8 := World.cell?_of_row H4.out 8 (.int .u32 (v0 : Int)) rfl
            have d9 := World.cell?_of_row H4.out 9 (.int .u32 (v1 : Int)) rfl
            have d10 := World.cell?_of_row H4.out 10 (.int .u32 (v2 : Int)) rfl
            have d11 := World.cell?_of_row H4.out 11 (.int .u32 (v3 : Int)) rfl
            have d12 := World.cell?_of_row H4.out 12 (.int .u32 (v4 : Int)) rfl
            have d13 := World.cell?_of_row H4.out 13 (.int .u32 (v5 : Int)) rfl
            have d14 := World.cell?_of_row H4.out 14 (.int .u16 (v6 : Int)) rfl
            have d15 := World.cell?_of_row H4.out 15 (.int .u16 (v7 : Int)) rfl
            have d16 := World.cell?_of_row H4.out 16 (.int .u32 (v8 : Int)) rfl
            have hne : ¬ wr.heap.size = w3.heap.size := by omega
            have hlt4 : wr.heap.size < w4.heap.size := by omega
            go_cut [] from 227 to 268 (fun wx => Hid (wx.heap[w3.heap.size]? = some (.cells ([.string ⟨name.toArray⟩, .int .u32 (v0 : Int), .int .u32 (v1 : Int), .int .u32 (v2 : Int), .int .u32 (v3 : Int), .int .u32 (v4 : Int), .int .u32 (v5 : Int), .int .u16 (v6 : Int), .int .u16 (v7 : Int), .int .u32 (v8 : Int), .slice none 0 0, .nilIface, .pointer none] : List Value).toArray 92 (0, 0))) ∧ Hid (Chg (· = w3.heap.size) w4 wx))
            case first =>
              --[R60
              have hi86 : Hid ((Tryd.prog.info? 86).map (·.size) = some 10) := Lib.hid (by kernel_rfl)
              have P4d : Hid (w4.drew.heap[w3.heap.size]? = some (.cells ([.string ⟨#[]⟩, .int .u32 0, .int .u32 0, .int .u32 0, .int .u32 0, .int .u32 0, .int .u32 0, .int .u16 0, .int .u16 0, .int .u32 0, .slice none 0 0, .nilIface, .pointer none] : List Value).toArray 92 (0, 0))) := Lib.hid P4.out
              go_still_tail 41, (by kernel_rfl)
              change wpList _ _ _ _ _ w4.drew
              refine wpList_store_head rfl 86 (.tmp 268) (.tmp 266) rfl w3.heap.size 92 ([.string ⟨#[]⟩, .int .u32 0, .int .u32 0, .int .u32 0, .int .u32 0, .int .u32 0, .int .u32 0, .int .u16 0, .int .u16 0, .int .u32 0, .slice none 0 0, .nilIface, .pointer none] : List Value).toArray #[.string ⟨name.toArray⟩, .int .u32 (v0 : Int), .int .u32 (v1 : Int), .int .u32 (v2 : Int), .int .u32 (v3 : Int), .int .u32 (v4 : Int), .int .u32 (v5 : Int), .int .u16 (v6 : Int), .int .u16 (v7 : Int), .int .u32 (v8 : Int)] rfl rfl P4d.out (by simp) hi86.out (List.all_eq_true.1 rfl) ?_
              have hrow := setRow_heap w4.drew w3.heap.size _ ((#[.string ⟨name.toArray⟩, .int .u32 (v0 : Int), .int .u32 (v1 : Int), .int .u32 (v2 : Int), .int .u32 (v3 : Int), .int .u32 (v4 : Int), .int .u32 (v5 : Int), .int .u16 (v6 : Int), .int .u16 (v7 : Int), .int .u32 (v8 : Int)] : Array Value).toList ++ (([.string ⟨#[]⟩, .int .u32 0, .int .u32 0, .int .u32 0, .int .u32 0, .int .u32 0, .int .u32 0, .int .u16 0, .int .u16 0, .int .u32 0, .slice none 0 0, .nilIface, .pointer none] : List Value).toArray.toList.drop 10)).toArray _ _ P4d.out
              have hchg := (setRow_chg w4.drew w3.heap.size ((#[.string ⟨name.toArray⟩, .int .u32 (v0 : Int), .int .u32 (v1 : Int), .int .u32 (v2 : Int), .int .u32 (v3 : Int), .int .u32 (v4 : Int), .int .u32 (v5 : Int), .int .u16 (v6 : Int), .int .u16 (v7 : Int), .int .u32 (v8 : Int)] : Array Value).toList ++ (([.string ⟨#[]⟩, .int .u32 0, .int .u32 0, .int .u32 0, .int .u32 0, .int .u32 0, .int .u32 0, .int .u16 0, .int .u16 0, .int .u32 0, .slice none 0 0, .nilIface, .pointer none] : List Value).toArray.toList.drop 10)).toArray).undrew
              go_wp2_with fail
              go_meet
              case rel => exact ⟨Lib.hid hrow, Lib.hid hchg⟩
              --]R60
            case rest =>
              obtain ⟨P5, C45⟩ := hcut
              obtain ⟨w5, rfl⟩ : ∃ w5, w5 = wc := ⟨wc, rfl⟩
              have C05 : Hid (Chg (· = w.heap.size + 1) wr w5) := Lib.hid (C04.out.trans (C45.out.mono (fun k _ e => .inr (by have e' : k = w3.heap.size := e; omega))))
              have R5 := Lib.hid (R3.out.chg C45.out (by show ¬ w.heap.size + 1 = w3.heap.size; omega) (fun k hk e => by have := hD.out k hk; have e' : k = w3.heap.size := e; omega))
              have d11' : w5.cell? ⟨wr.heap.size, 11, none⟩ = some (.int .u32 (v3 : Int)) := (C45.out.cell (p := ⟨wr.heap.size, 11, none⟩) hlt4 hne).trans d11
              have z5 := C45.out.size
              clear d8 d9 d10 d11 d12 d13 d14 d15 d16 H4 P4 R3 C04 C45 hlt4 hne
              go_upto_if 274 with fail
              go_cut [22] from 269 to 277 (fun c22 wx => ∃ (T9 : TypeId) (p9 : Addr), c22 = .iface T9 (.pointer (some p9)) ∧ Hid (Below w5.heap.size w5 wx))
              case first =>
                --[R62
                by_cases h3 : v3 = 0
                · have hb3 : ((v3 : Int) == 0) = true := by rw [beq_iff_eq]; omega
                  clear h3
                  go_wp2_with fail
                  go_meet
                  case rel => exact ⟨_, _, rfl, Lib.hid ((Below.refl _ _).alloc (Nat.le_refl _) _)⟩
                · have hb3 : ((v3 : Int) == 0) = false := by rw [beq_eq_false_iff_ne]; omega
                  clear h3
                  go_wp2_with fail
                  go_meet
                  case rel => exact ⟨_, _, rfl, Lib.hid (Below.refl _ _)⟩
                --]R62
              case rest =>
                obtain ⟨T9, p9, rfl, b9⟩ := hcut
                obtain ⟨w6, rfl⟩ : ∃ w6, w6 = wc := ⟨wc, rfl⟩
                have C06 : Hid (Chg (· = w.heap.size + 1) wr w6) := Lib.hid (C05.out.trans (chg_of_new b9.out))
                have R6 := Lib.hid (R5.out.later b9.out)
                have P6 := row_later b9.out P5
                have z6 : w3.heap.size < w6.heap.size := (Array.getElem?_eq_some_iff.1 P6.out).1
                have K0 : Hid (w6.drew.cell? ⟨w3.heap.size, 4, none⟩ = some (.int .u32 (v3 : Int)) ∧ w6.drew.cell? ⟨w3.heap.size, 3, none⟩ = some (.int .u32 (v2 : Int))) := Lib.hid ⟨World.cell?_of_row P6.out 4 _ rfl, World.cell?_of_row P6.out 3 _ rfl⟩
                have hw2 : IntKind.i64.wrap (v2 : Int) = (v2 : Int) := IntWalk.i64_in _ (by omega)
                have hw3 : IntKind.i64.wrap (v3 : Int) = (v3 : Int) := IntWalk.i64_in _ (by omega)
                have CALL : Hid (∀ q, Calls Tryd.prog 27 #[.iface T9 (.pointer (some p9)), .int .i64 (v3 : Int), .int .i64 (v2 : Int)] (w6.drewN q) fun e w' => e = .returned (.pointer (some ⟨w6.heap.size, 0, none⟩)) ∧ Below w6.heap.size w6 w') := Lib.hid (fun q =>
                  (newSec T9 p9 v3 v2 (by omega) (by omega) (w6.drewN q)).mono fun e w' ⟨h1, h2⟩ => ⟨h1, ⟨h2.os, h2.tape, h2.output, h2.size, h2.block⟩⟩)
                clear b9 C05 R5 P5 d11' z5
                go_upto_region 64 with fail
                go_region_held3 (fun w' => w'.cell? ⟨w3.heap.size, 4, none⟩ = some (.int .u32 (v3 : Int)) ∧ w'.cell? ⟨w3.heap.size, 3, none⟩ = some (.int .u32 (v2 : Int)))
                  (first | with_reducible exact K0.out | with_reducible exact K7.out | with_reducible exact K8.out | fail)
                  (first
                    | (go_at_call 27; refine (CALL.out _).mono ?_; rintro e w7 ⟨rfl, b7⟩; have P7 := row_later b7 P6; have K7 : Hid (w7.cell? ⟨w3.heap.size, 4, none⟩ = some (.int .u32 (v3 : Int)) ∧ w7.cell? ⟨w3.heap.size, 3, none⟩ = some (.int .u32 (v2 : Int))) := Lib.hid ⟨World.cell?_of_row P7.out 4 _ rfl, World.cell?_of_row P7.out 3 _ rfl⟩; have c12 := World.cell?_of_row P7.out 12 (.pointer none) rfl; have g12 := frozen_of_row _ w3.heap.size 12 _ _ P7.out; have P8 := Lib.hid (heap_setCell_same w7 w3.heap.size 12 _ _ (.pointer (some ⟨w6.heap.size, 0, none⟩)) P7.out); have K8 : Hid ((w7.setCell ⟨w3.heap.size, 12, none⟩ (.pointer (some ⟨w6.heap.size, 0, none⟩))).cell? ⟨w3.heap.size, 4, none⟩ = some (.int .u32 (v3 : Int)) ∧ (w7.setCell ⟨w3.heap.size, 12, none⟩ (.pointer (some ⟨w6.heap.size, 0, none⟩))).cell? ⟨w3.heap.size, 3, none⟩ = some (.int .u32 (v2 : Int))) := Lib.hid ⟨World.cell?_of_row (l := [.string ⟨name.toArray⟩, .int .u32 (v0 : Int), .int .u32 (v1 : Int), .int .u32 (v2 : Int), .int .u32 (v3 : Int), .int .u32 (v4 : Int), .int .u32 (v5 : Int), .int .u16 (v6 : Int), .int .u16 (v7 : Int), .int .u32 (v8 : Int), .slice none 0 0, .nilIface, .pointer (some ⟨w6.heap.size, 0, none⟩)]) P8.out 4 _ rfl, World.cell?_of_row (l := [.string ⟨name.toArray⟩, .int .u32 (v0 : Int), .int .u32 (v1 : Int), .int .u32 (v2 : Int), .int .u32 (v3 : Int), .int .u32 (v4 : Int), .int .u32 (v5 : Int), .int .u16 (v6 : Int), .int .u16 (v7 : Int), .int .u32 (v8 : Int), .slice none 0 0, .nilIface, .pointer (some ⟨w6.heap.size, 0, none⟩)]) P8.out 3 _ rfl⟩)
                    | fail)
                have C08 : Hid (Chg (· = w.heap.size + 1) wr (w7.setCell ⟨w3.heap.size, 12, none⟩ (.pointer (some ⟨w6.heap.size, 0, none⟩)))) := Lib.hid ((C06.out.trans (chg_of_new b7)).setCell _ _ (.inr (by show wr.heap.size ≤ w3.heap.size; omega)))
                have R8 := Lib.hid ((R6.out.later b7).chg ((Chg.refl (· = w3.heap.size) w7).setCell ⟨w3.heap.size, 12, none⟩ (.pointer (some ⟨w6.heap.size, 0, none⟩)) (.inl rfl)) (by show ¬ w.heap.size + 1 = w3.heap.size; omega) (fun k hk e => by have := hD.out k hk; have e' : k = w3.heap.size := e; omega))
                obtain ⟨w8, e8⟩ : ∃ w8, w7.setCell ⟨w3.heap.size, 12, none⟩ (.pointer (some ⟨w6.heap.size, 0, none⟩)) = w8 := ⟨_, rfl⟩
                rw [e8] at P8 C08 R8 ⊢
                replace P8 : Hid (w8.heap[w3.heap.size]? = some (.cells ([.string ⟨name.toArray⟩, .int .u32 (v0 : Int), .int .u32 (v1 : Int), .int .u32 (v2 : Int), .int .u32 (v3 : Int), .int .u32 (v4 : Int), .int .u32 (v5 : Int), .int .u16 (v6 : Int), .int .u16 (v7 : Int), .int .u32 (v8 : Int), .slice none 0 0, .nilIface, .pointer (some ⟨w6.heap.size, 0, none⟩)] : List Value).toArray 92 (0, 0))) := P8
                clear e8 b7 P7 K7 K8 K0 c12 g12 CALL hw2 hw3 P6 R6 C06
                have s12 := World.cell?_of_row P8.out 12 (.pointer (some ⟨w6.heap.size, 0, none⟩)) rfl
                have c11 := World.cell?_of_row P8.out 11 .nilIface rfl
                have g11 := frozen_of_row _ w3.heap.size 11 _ _ P8.out
                go_upto_region 66 with fail
                have P9 : Hid ((w8.setCell ⟨w3.heap.size, 11, none⟩ (.iface 90 (.pointer (some ⟨w6.heap.size, 0, none⟩)))).heap[w3.heap.size]? = some (.cells ([.string ⟨name.toArray⟩, .int .u32 (v0 : Int), .int .u32 (v1 : Int), .int .u32 (v2 : Int), .int .u32 (v3 : Int), .int .u32 (v4 : Int), .int .u32 (v5 : Int), .int .u16 (v6 : Int), .int .u16 (v7 : Int), .int .u32 (v8 : Int), .slice none 0 0, .iface 90 (.pointer (some ⟨w6.heap.size, 0, none⟩)), .pointer (some ⟨w6.heap.size, 0, none⟩)] : List Value).toArray 92 (0, 0))) := Lib.hid (heap_setCell_same w8 w3.heap.size 11 _ _ (.iface 90 (.pointer (some ⟨w6.heap.size, 0, none⟩))) P8.out)
                have C09 : Hid (Chg (· = w.heap.size + 1) wr (w8.setCell ⟨w3.heap.size, 11, none⟩ (.iface 90 (.pointer (some ⟨w6.heap.size, 0, none⟩))))) := Lib.hid (C08.out.setCell _ _ (.inr (by show wr.heap.size ≤ w3.heap.size; omega)))
                have R9 := Lib.hid (R8.out.chg ((Chg.refl (· = w3.heap.size) w8).setCell ⟨w3.heap.size, 11, none⟩ (.iface 90 (.pointer (some ⟨w6.heap.size, 0, none⟩))) (.inl rfl)) (by show ¬ w.heap.size + 1 = w3.heap.size; omega) (fun k hk e => by have := hD.out k hk; have e' : k = w3.heap.size := e; omega))
                obtain ⟨w9, e9⟩ : ∃ w9, w8.setCell ⟨w3.heap.size, 11, none⟩ (.iface 90 (.pointer (some ⟨w6.heap.size, 0, none⟩))) = w9 := ⟨_, rfl⟩
                rw [e9] at P9 C09 R9 ⊢
                clear e9 s12 c11 g11 P8 C08 R8
                have N9 := Lib.hid (hNk.out.chg C09.out (Lib.hid ⟨_, R9.out⟩))
                have T9' := Lib.hid (hTk.out.chgS C09.out (fun k e => .inr (.inl e)))
                have O9 := Lib.hid (hOk.out.chgS C09.out (fun k e => .inr (.inl e)))
                have G9 := Lib.hid (C09.out.row hGk.out (by show ¬ G = w.heap.size + 1; omega))
                have S9 := Lib.hid (hSk.out.chg C09.out (fun k e => .inr (.inl e)))
                have f8' : w9.cell? ⟨w.heap.size, 8, none⟩ = some (.slice (some ⟨G, 0, none⟩) f.names.length f.names.length) := World.cell?_of_row N9.out.f 8 _ rfl
                have cG : w9.cell? ⟨G, k, none⟩ = some (.pointer none) := World.cell?_of_row G9.out k _ (by
                  rw [List.getElem?_append_right (by rw [List.length_map, hbs.out]; exact Nat.le_refl _), List.length_map, hbs.out, Nat.sub_self, List.getElem?_replicate_of_lt (by omega)])
                have gG := frozen_of_row _ G k _ _ G9.out
                go_upto_region 51 with fail
                have CG := (Chg.refl (· = G) w9).setCell ⟨G, k, none⟩ (.pointer (some ⟨w3.heap.size, 0, none⟩)) (.inl rfl)
                have KG : Keeps 69 w9 (w9.setCell ⟨G, k, none⟩ (.pointer (some ⟨w3.heap.size, 0, none⟩))) := keeps_set G9.out
                have N10 := Lib.hid (N9.out.chgS CG (by show ¬ w.heap.size = G; omega) (by show ¬ w.heap.size + 1 = G; omega) (fun k e => by have e' : k = G := e; omega))
                have R10 := N9.out.rdrS R9.out CG (by show ¬ w.heap.size + 1 = G; omega) (fun k e => by have e' : k = G := e; omega)
                replace R10 : Hid (Rdr (w9.setCell ⟨G, k, none⟩ (.pointer (some ⟨w3.heap.size, 0, none⟩))) (secV (w.heap.size + 1)) (w.heap.size + 1) (DR R A) l (f.base + 20 + f.optn + 40 * (k + 1))) := Lib.hid (by
                  rw [show f.base + 20 + f.optn + 40 * (k + 1) = f.base + 20 + f.optn + 40 * k + 40 by omega]
                  exact R10)
                have T10 := Lib.hid (T9'.out.other CG hTG.out)
                have O10 := Lib.hid (O9.out.keeps KG (by decide))
                have S10 := Lib.hid ((S9.out.push (by rw [hbs.out]; exact hname.out) ⟨_, _, _, _, _, _, _, _, _, _, P9.out⟩ hv4 hv6 hrel6.out (by omega) (by omega) (by omega) (by omega)).chg CG (fun k e => .inr (.inr (.inl e))))
                have hbs' : Hid ((bs ++ [w3.heap.size]).length = k + 1) := Lib.hid (by rw [List.length_append, hbs.out]; rfl)
                have G10 : Hid ((w9.setCell ⟨G, k, none⟩ (.pointer (some ⟨w3.heap.size, 0, none⟩))).heap[G]? = some (.cells (((bs ++ [w3.heap.size]).map fun S => Value.pointer (some ⟨S, 0, none⟩)) ++ List.replicate (f.names.length - (k + 1)) (Value.pointer none)).toArray 69 (0, 0))) := Lib.hid (by
                  have e := set_push (fun S => Value.pointer (some ⟨S, 0, none⟩)) (.pointer none) bs w3.heap.size f.names.length (by rw [hbs.out]; exact hkn)
                  rw [hbs.out] at e
                  rw [heap_setCell_same w9 G k _ _ _ G9.out, List.setIfInBounds_toArray, e])
                obtain ⟨w10, e10⟩ : ∃ w10, w9.setCell ⟨G, k, none⟩ (.pointer (some ⟨w3.heap.size, 0, none⟩)) = w10 := ⟨_, rfl⟩
                rw [e10] at N10 R10 T10 O10 S10 G10 ⊢
                clear CG KG e10 N9 R9 T9' O9 G9 S9 P9 C09 cG gG f8' hNk hRk hTk hOk hGk hSk hbs f1 f8
                go_wp2
                go_roundw
                case rel => exact ⟨k + 1, _, by omega, by go_num, hbs', N10, R10, T10, O10, G10, S10⟩
                case measure => simp [intOf]; omega
            --]L1
          · obtain rfl : f.names.length = k := by omega
            --[X1
            have hG' : Hid (wr.heap[G]? = some (.cells (bs.map fun S => Value.pointer (some ⟨S, 0, none⟩)).toArray 69 (0, 0))) := Lib.hid (by
              have h := hGk.out
              rw [Nat.sub_self, List.replicate_zero, List.append_nil] at h
              exact h)
            clear hGk hRk hTk hTG
            go_wp2_with fail
            clear f1
            go_loopw [23, 24, 315] (fun c23 c24 i wx => ∃ j : Nat, j ≤ f.names.length ∧ i = .int .i64 j ∧ Hid (NS w wx w.heap.size (w.heap.size + 1) R A l [.int .u16 f.mach, .int .u16 f.names.length, .int .u32 f.time, .int .u32 f.place, .int .u32 f.n, .int .u16 f.optn, .int .u16 f.flags, ov, .slice (some ⟨G, 0, none⟩) f.names.length f.names.length, .slice sA sn sc, .slice VC f.n cc, .slice TA f.texts.length tc]) ∧ Hid (CO w wx w.heap.size (w.heap.size + 1) (.slice VC f.n cc) f.n (symRow (l.drop f.place) f.n)) ∧ Hid (wx.heap[G]? = some (.cells (bs.map fun S => Value.pointer (some ⟨S, 0, none⟩)).toArray 69 (0, 0))) ∧ Hid (SECS w wx w.heap.size (w.heap.size + 1) G l f.names bs)) (fun _ _ i _ => f.names.length - (intOf i).toNat)
            case atStart => exact ⟨0, Nat.zero_le _, rfl, hNk, hOk, hG', hSk⟩
            case round =>
              clear hNk hOk hG' hSk f8
              obtain ⟨j, hj, rfl, hNj, hOj, hGj, hSj⟩ := hrel
              by_cases hjn : j < f.names.length
              ·
                --[X2
                obtain ⟨S, hS⟩ : ∃ S, bs[j]? = some S := ⟨_, List.getElem?_eq_getElem (by rw [hbs.out]; exact hjn)⟩
                obtain ⟨v4, v6, hsa, hv4, hv6, hv⟩ := hSj.out.sec j S _ hS (List.getElem?_eq_getElem hjn)
                obtain ⟨hS0, hSlt, hSF, hSM, hSG⟩ := hSj.out.at_ S (List.mem_of_getElem? hS)
                have cG : wr.cell? ⟨G, j, none⟩ = some (.pointer (some ⟨S, 0, none⟩)) := World.cell?_of_row hGj.out j _ (by rw [List.getElem?_map, hS]; rfl)
                have cF : wr.cell? ⟨w.heap.size, 8, none⟩ = some (.slice (some ⟨G, 0, none⟩) f.names.length f.names.length) := World.cell?_of_row hNj.out.f 8 _ rfl
                replace hS := Lib.hid hS
                replace hv := Lib.hid hv
                obtain ⟨x1, x2, x3, x4, x6, x8, x9, x10, x11, x12, hrow⟩ := hsa
                have c5 := World.cell?_of_row hrow 5 (.int .u32 (v4 : Int)) rfl
                have c7 := World.cell?_of_row hrow 7 (.int .u16 (v6 : Int)) rfl
                have hMlt := hNj.out.M_lt
                have hFlt := hNj.out.F_lt
                have hGlt : G < wr.heap.size := (Array.getElem?_eq_some_iff.1 hGj.out).1
                replace hrow := Lib.hid hrow
                have CALL : Hid (∀ q, Calls Tryd.prog 38 #[.pointer (some ⟨S, 0, none⟩), secV (w.heap.size + 1)] (wr.drewN q) fun e w' => (∃ A k c, e = .returned (.tuple #[.slice A k c, .nilIface])) ∧ Hid (∃ p, Rdr w' (secV (w.heap.size + 1)) (w.heap.size + 1) (DR R A) l p) ∧ Chg (fun k => k = w.heap.size + 1) wr w') := Lib.hid (fun q => by
                  obtain ⟨p, hp⟩ := hNj.out.r
                  refine (relocsAny S 0 v4 v6 (w.heap.size + 1) (DR R A) l (wr.drewN q) (Lib.hid ⟨p, hp.drewN q⟩) (by omega) hv (by omega) hSM (by exact c5) (by exact c7)).mono ?_
                  rintro e w' ⟨h1, h2, h3⟩
                  exact ⟨h1, h2, ⟨h3.os, h3.tape, h3.output, h3.size, h3.block⟩⟩)
                have K0 : Hid (wr.drew.cell? ⟨w.heap.size, 8, none⟩ = some (.slice (some ⟨G, 0, none⟩) f.names.length f.names.length) ∧ wr.drew.cell? ⟨G, j, none⟩ = some (.pointer (some ⟨S, 0, none⟩))) := Lib.hid ⟨cF, cG⟩
                clear c5 c7 hv4 hv6
                go_upto_region 71 with fail
                go_region_held3 (fun w' => w'.cell? ⟨w.heap.size, 8, none⟩ = some (.slice (some ⟨G, 0, none⟩) f.names.length f.names.length) ∧ w'.cell? ⟨G, j, none⟩ = some (.pointer (some ⟨S, 0, none⟩)))
                  (first | with_reducible exact K0.out | with_reducible exact K7.out | with_reducible exact K8.out | fail)
                  (first
                    | (go_at_call 38; refine (CALL.out _).mono ?_; rintro e w7 ⟨⟨rA, rk, rc, rfl⟩, R7, C7⟩; have P7 := Lib.hid (C7.row hrow.out hSM); have K7 : Hid (w7.cell? ⟨w.heap.size, 8, none⟩ = some (.slice (some ⟨G, 0, none⟩) f.names.length f.names.length) ∧ w7.cell? ⟨G, j, none⟩ = some (.pointer (some ⟨S, 0, none⟩))) := Lib.hid ⟨(C7.cell (p := ⟨w.heap.size, 8, none⟩) hFlt (by show ¬ w.heap.size = w.heap.size + 1; omega)).trans cF, (C7.cell (p := ⟨G, j, none⟩) hGlt (by show ¬ G = w.heap.size + 1; omega)).trans cG⟩; have c10 := World.cell?_of_row P7.out 10 x10 rfl; have g10 := frozen_of_row _ S 10 _ _ P7.out; have C8 := (Chg.refl (· = S) w7).setCell ⟨S, 10, none⟩ (.slice rA rk rc) (.inl rfl); have K8 : Hid ((w7.setCell ⟨S, 10, none⟩ (.slice rA rk rc)).cell? ⟨w.heap.size, 8, none⟩ = some (.slice (some ⟨G, 0, none⟩) f.names.length f.names.length) ∧ (w7.setCell ⟨S, 10, none⟩ (.slice rA rk rc)).cell? ⟨G, j, none⟩ = some (.pointer (some ⟨S, 0, none⟩))) := Lib.hid ⟨(C8.cell (p := ⟨w.heap.size, 8, none⟩) (Nat.lt_of_lt_of_le hFlt C7.size) (fun e => hSF e.symm)).trans K7.out.1, (C8.cell (p := ⟨G, j, none⟩) (Nat.lt_of_lt_of_le hGlt C7.size) (fun e => hSG e.symm)).trans K7.out.2⟩)
                    | fail)
                have KS : Keeps 92 w7 (w7.setCell ⟨S, 10, none⟩ (.slice rA rk rc)) := keeps_set P7.out
                have N8 := Lib.hid ((hNj.out.chg C7 R7).chgS C8 (fun e => hSF e.symm) (fun e => hSM e.symm) (fun k e => by have e' : k = S := e; omega))
                have O8 := Lib.hid ((hOj.out.chgS C7 (fun k e => .inr (.inl e))).keeps KS (by decide))
                have G8 : Hid ((w7.setCell ⟨S, 10, none⟩ (.slice rA rk rc)).heap[G]? = some (.cells (bs.map fun S => Value.pointer (some ⟨S, 0, none⟩)).toArray 69 (0, 0))) := Lib.hid (C8.row (C7.row hGj.out (by show ¬ G = w.heap.size + 1; omega)) (fun e => hSG e.symm))
                have S8 := Lib.hid ((hSj.out.chg C7 (fun k e => .inr (.inl e))).poke (S0 := S) (.slice rA rk rc))
                obtain ⟨w8, e8⟩ : ∃ w8, w7.setCell ⟨S, 10, none⟩ (.slice rA rk rc) = w8 := ⟨_, rfl⟩
                rw [e8] at N8 O8 G8 S8 ⊢
                clear e8 KS C7 C8 R7 P7 K7 K8 K0 c10 g10 CALL cF cG hrow hNj hOj hGj hSj
                go_wp2
                go_roundw
                case rel => exact ⟨j + 1, by omega, by go_num, N8, O8, G8, S8⟩
                case measure => simp [intOf]; omega
                --]X2
              · obtain rfl : f.names.length = j := by omega
                obtain ⟨B, hB, -, -, hB0⟩ := hOj.out.own
                have own9 := Lib.hid (owns_mono hB hB0)
                have F9 := Lib.hid hNj.out.f
                have b9 := Lib.hid hNj.out.b
                clear hB hNj hOj
                go_wp2
                go_ret2
                exact ⟨w.heap.size, w.heap.size + 1, G, [.int .u16 f.mach, .int .u16 f.names.length, .int .u32 f.time, .int .u32 f.place, .int .u32 f.n, .int .u16 f.optn, .int .u16 f.flags], ov, .slice sA sn sc, .slice VC f.n cc, .slice TA f.texts.length tc, bs, rfl, rfl, F9, hGj, hbs, hSj, own9, b9.out⟩
            --]X1
end Go.Proofs.YtbpebngjpecncaaDoor
