/-
  Relocations as plain data: the contracts of ZZRelocs, MachoRelocs.
-/
import Derived.Test.YtmgmmdhaklokjaaDoorPush1
import Derived.Test.YtmgmmdhaklokjaaDoorRels2
namespace Go.Proofs.YtmgmmdhaklokjaaDoor
set_option linter.unusedVariables false
set_option linter.unusedSimpArgs false
open Go Go.RowKit
attribute [local go_sem ↓] Go.wp_at_zero Go.wp_at_succ

set_option maxRecDepth 100000 in
set_option maxHeartbeats 2000000 in
theorem zzRelocs_any (big : Bool) (n : Nat) (A : Option Addr) (l : List UInt8) (len c : Nat) (w : World) (hn : n ≤ 131072) (hN : Hid (len = l.length)) (hc : len ≤ c) (hb : len ≤ 2147483647) (hA : Hid (RB w A l)) (hAl : Hid (∀ a, A = some a → a.block < w.heap.size)) (h3 : 3 ≤ w.heap.size) (TE TU : TypeId) (vE vU : Value) (hErr : Hid (ErrsAt w TE TU vE vU)) :
    Calls Tryd.prog 23 #[.int .u8 (ordn big), .int .u32 n, .slice A len c] w fun e w' => (((8 * n ≤ len ∨ n = 0) ∧ ∃ v, e = .returned (.tuple #[v, .nilIface]) ∧ Hid (w'.ownsRow w.heap.size 107 7 v n (relRow big l n))) ∨ (len < 8 * n ∧ 0 < n ∧ ∃ x T v, e = .returned (.tuple #[x, .iface T v]))) ∧ Below w.heap.size w w' := by
  obtain ⟨w3, hw3⟩ : ∃ w3, w3 = ((w.alloc (.cells #[.int .u32 0, .int .u32 0, .int .u32 0, .int .u32 0, .int .u32 0, .int .u32 0, .int .u32 0, .int .u8 (ordn big), .slice none 0 0, .slice none 0 0, .pointer none, .pointer none] 84)).alloc (.cells #[.string ⟨#[]⟩, .string ⟨#[]⟩, .int .u64 0, .int .u64 0, .int .u32 0, .int .u32 0, .int .u32 0, .int .u32 n, .int .u32 0, .slice none 0 0, .nilIface, .pointer none] 103)).alloc (.cells #[.slice A len c, .int .i64 0, .int .i64 (-1)] 125) := ⟨_, rfl⟩
  have b3 : Below w.heap.size w w3 := by rw [hw3]; exact (((Below.refl _ _).alloc (Nat.le_refl _) _).alloc (by simp) _).alloc (by simp; omega) _
  have hs3 : w3.heap.size = w.heap.size + 3 := by rw [hw3]; simp
  have gF : w3.heap[w.heap.size]? = some (.cells #[.int .u32 0, .int .u32 0, .int .u32 0, .int .u32 0, .int .u32 0, .int .u32 0, .int .u32 0, .int .u8 (ordn big), .slice none 0 0, .slice none 0 0, .pointer none, .pointer none] 84 (0, 0)) := by
    rw [hw3]
    exact (Below.heap_alloc _ _ w.heap.size (by simp; omega)).trans ((Below.heap_alloc _ _ w.heap.size (by simp)).trans (heap_alloc_new w _))
  have gH : w3.heap[w.heap.size + 1]? = some (.cells #[.string ⟨#[]⟩, .string ⟨#[]⟩, .int .u64 0, .int .u64 0, .int .u32 0, .int .u32 0, .int .u32 0, .int .u32 n, .int .u32 0, .slice none 0 0, .nilIface, .pointer none] 103 (0, 0)) := by
    rw [hw3]
    have := heap_alloc_new (w.alloc (.cells #[.int .u32 0, .int .u32 0, .int .u32 0, .int .u32 0, .int .u32 0, .int .u32 0, .int .u32 0, .int .u8 (ordn big), .slice none 0 0, .slice none 0 0, .pointer none, .pointer none] 84)) (.cells #[.string ⟨#[]⟩, .string ⟨#[]⟩, .int .u64 0, .int .u64 0, .int .u32 0, .int .u32 0, .int .u32 0, .int .u32 n, .int .u32 0, .slice none 0 0, .nilIface, .pointer none] 103)
    rw [World.size_alloc] at this
    exact (Below.heap_alloc _ _ (w.heap.size + 1) (by simp)).trans this
  have gR : w3.heap[w.heap.size + 2]? = some (.cells #[.slice A len c, .int .i64 0, .int .i64 (-1)] 125 (0, 0)) := by
    rw [hw3]
    have := heap_alloc_new ((w.alloc (.cells #[.int .u32 0, .int .u32 0, .int .u32 0, .int .u32 0, .int .u32 0, .int .u32 0, .int .u32 0, .int .u8 (ordn big), .slice none 0 0, .slice none 0 0, .pointer none, .pointer none] 84)).alloc (.cells #[.string ⟨#[]⟩, .string ⟨#[]⟩, .int .u64 0, .int .u64 0, .int .u32 0, .int .u32 0, .int .u32 0, .int .u32 n, .int .u32 0, .slice none 0 0, .nilIface, .pointer none] 103)) (.cells #[.slice A len c, .int .i64 0, .int .i64 (-1)] 125)
    simpa using this
  obtain ⟨D, hD⟩ : ∃ D : Nat → Prop, D = fun k => k = w.heap.size + 2 ∨ ∃ a, A = some a ∧ a.block = k := ⟨_, rfl⟩
  have hDlt : ∀ k, D k → k = w.heap.size + 2 ∨ k < w.heap.size := fun k hk => by
    rw [hD] at hk
    rcases hk with h | ⟨a, ha, h⟩
    · exact .inl h
    · exact .inr (h ▸ hAl.out a ha)
  have M3 : Hid (AtB w3 D (w.heap.size + 2) l) := Lib.hid ⟨A, len, c, _, _, hN.out, hc, hb, by omega, by rw [hD]; exact .inl rfl, fun k hk => by have := hDlt k hk; omega, gR, hA.out.later b3, fun a ha => by rw [hD]; exact .inr ⟨a, ha, rfl⟩⟩
  have E3 := Lib.hid (hErr.out.chg (Chg.of_below (S := fun k => w.heap.size ≤ k) b3 (fun k _ h => h)) (by omega) (by omega))
  have CALL := Lib.hid (push_any w.heap.size (w.heap.size + 1) (w.heap.size + 2) D big l (.int .u32 0) (.int .u32 0) (.int .u32 0) (.int .u32 0) (.int .u32 0) (.int .u32 0) (.int .u32 0) (.slice none 0 0) (.slice none 0 0) (.pointer none) (.pointer none) (.string ⟨#[]⟩) (.string ⟨#[]⟩) (.int .u64 0) (.int .u32 0) (.int .u32 0) 0 0 0 n 0 w.heap.size [] w3 (by omega) (by omega) (by omega) hn TE TU vE vU E3 (by omega) M3
    (Lib.hid ⟨fun h => by have := hDlt _ h; omega, fun h => by have := hDlt _ h; omega, by omega, by omega, fun k hk => by simp [Value.ownBlock] at hk⟩) (Lib.hid gF) (by omega) (Lib.hid gH) (Lib.hid (World.ownsRow_nil _ _ _ _)) (by omega) (by omega))
  replace b3 := Lib.hid b3
  replace hs3 := Lib.hid hs3
  clear gF gH gR M3 E3 hDlt hD
  go_enter Tryd.func23, Tryd.ntmps23
  go_wp2_with fail
  refine (newReader _ A len c rfl _).mono ?_
  rintro e w' ⟨rfl, rfl⟩
  go_wp2_with fail
  rw [← hw3]
  clear hw3
  refine CALL.out.mono ?_
  rintro e w4 ⟨C4, hp⟩
  have b4 := Lib.hid (b3.out.trans (C4.below (B := w.heap.size) (by have := hs3.out; omega) (fun k hk h => by rcases h with h | h | h <;> first | omega | simp [Value.ownBlock] at h)))
  rcases hp with ⟨hok, rfl, sv, rv, S, hF4, -, hH4, -, -, hrel⟩ | ⟨h1, h2, hc9, T, v, rfl⟩
  · obtain ⟨RA, rc, rfl, -, -, -⟩ := RT.of_owns hrel.out
    have c9 := World.cell?_of_row hH4.out 9 _ rfl
    have hrel' := Lib.hid (owns_mono hrel.out (base' := w.heap.size) (by have := hs3.out; omega))
    have hok' : 8 * n ≤ len ∨ n = 0 := by have := hN.out; omega
    clear hrel hH4 hF4 C4 CALL hok
    rw [List.drop_zero] at hrel'
    go_wp2
    go_ret2
    exact ⟨.inl ⟨hok', _, rfl, hrel'⟩, b4.out⟩
  · have c9 := hc9.out
    have hbad : len < 8 * n := by have := hN.out; omega
    clear C4 CALL h1
    go_wp2
    go_ret2
    exact ⟨.inr ⟨hbad, h2, _, _, _, rfl⟩, b4.out⟩

/-- What MachoRelocs gives back. -/
def RelsPost (big : Bool) (l : List UInt8) (len n : Nat) (w : World) (e : Ending) (w' : World) : Prop :=
  ((8 * n ≤ len ∨ n = 0) ∧ ∃ v, e = .returned (.tuple #[v, .bool true]) ∧ Hid (w'.ownsRow w.heap.size 42 7 v n (relRow big l n))) ∨ (len < 8 * n ∧ 0 < n ∧ e = .returned (.tuple #[.slice none 0 0, .bool false]))

set_option maxRecDepth 100000 in
set_option maxHeartbeats 2000000 in
theorem implRelocs_any (big : Bool) (n : Nat) (A : Option Addr) (l : List UInt8) (len c : Nat) (w : World) (hn : n ≤ 131072) (hN : Hid (len = l.length)) (hb : len ≤ 2147483647) (hA : RB w A l) (h3 : 3 ≤ w.heap.size) (TE TU : TypeId) (vE vU : Value) (hErr : Hid (ErrsAt w TE TU vE vU)) :
    Calls Tryd.prog 9 #[.bool big, .int .u32 n, .slice A len c] w fun e w' => RelsPost big l len n w e w' ∧ Below w.heap.size w w' := by
  go_enter Tryd.func9, Tryd.ntmps9
  go_wp2_with fail
  refine (order_any big w).mono ?_
  rintro e w' ⟨rfl, rfl⟩
  go_wp2_with fail
  refine (copied_any A l len c hN.out hb w hA).mono ?_
  rintro e w1 ⟨⟨v, rfl, hown⟩, b1⟩
  obtain ⟨-, A1, c1, rfl, R1, hc1, -, -, -⟩ := RB.of_owns hown
  have hlt := Lib.hid (fun (a : Addr) (ha : A1 = some a) => owned_lt hown (by rw [ha]))
  have hz1 := b1.size
  have E1 := Lib.hid (hErr.out.chg (Chg.of_below (S := fun k => w.heap.size ≤ k) b1 (fun k _ h => h)) (by omega) (by omega))
  have CALL := Lib.hid (zzRelocs_any big n A1 l len c1 w1 hn hN hc1 hb (Lib.hid R1) hlt (by omega) TE TU vE vU E1)
  replace b1 := Lib.hid b1
  clear hown R1 E1 hlt
  go_wp2_with fail
  refine CALL.out.mono ?_
  rintro e w2 ⟨hp, b2⟩
  have b3 := Lib.hid (b1.out.trans (b2.mono hz1))
  have hz3 := b3.out.size
  clear b2 CALL
  rcases hp with ⟨hok, v, rfl, hrel⟩ | ⟨hbad, h0, x, T, v, rfl⟩
  · obtain ⟨G, gc, rfl, hG⟩ := rels_at hrel.out
    clear hrel
    go_wp2_with fail
    refine (relocsOf_any G n gc big l w2 hn (Lib.hid (fun k hk => by
      obtain ⟨g, e1, -, hlt, hcl⟩ := hG k hk
      exact ⟨g, e1, hlt, hcl⟩))).mono ?_
    rintro e w4 ⟨⟨v, rfl, hown4⟩, b4⟩
    have hfin : Hid (RelsPost big l len n w (.returned (.tuple #[v, .bool true])) w4) := Lib.hid (.inl ⟨hok, v, rfl, Lib.hid (owns_mono hown4.out hz3)⟩)
    have b5 := Lib.hid (b3.out.trans (b4.mono hz3))
    clear hown4 b4 hG hok
    go_wp2
    go_ret2
    exact ⟨hfin.out, b5.out⟩
  · have hfin : Hid (RelsPost big l len n w (.returned (.tuple #[.slice none 0 0, .bool false])) w2) := Lib.hid (.inr ⟨hbad, h0, rfl⟩)
    clear hbad
    go_wp2
    go_ret2
    exact ⟨hfin.out, b3.out⟩
end Go.Proofs.YtmgmmdhaklokjaaDoor
