/-
  A PE file that is to be made, as a value in memory. No program in sight.
-/
import Derived.Test.YtbpebngjpecncaaGreatDoorPeMade
import Derived.Test.YtbpebngjpecncaaGreatDoorSpecW
import Derived.Test.YtbpebngjpecncaaGreatDoorRecs
namespace Go.Proofs.YtbpebngjpecncaaGreatDoor
set_option linter.unusedVariables false
set_option linter.unusedSimpArgs false
set_option maxRecDepth 100000
open Go Go.RowKit

/-- A relocation; a section; a symbol. -/
def RRel (w : World) (cs : List Value) (r : Nat × Nat × Nat) : Prop :=
  ∃ A, cs = [.slice A 3 3] ∧ RT w 54 A 1 3 ([r.1, r.2.1, r.2.2].map uv) ∧ r.1 ≤ 18446744073709551615 ∧ r.2.1 ≤ 18446744073709551615 ∧ r.2.2 ≤ 18446744073709551615
structure RBitAt (w : World) (b : BitL) (A : Option Addr) (d c : Nat) (B : Option Addr) (r c' : Nat) (vs : List Value) : Prop where
  data : RT w 5 A 1 d (b.data.map bv)
  cap : d ≤ c
  rels : RT w 25 B 1 r vs
  recs : Recs RRel w 1 r vs b.relocs
  size : b.size < 4294967296
  addr : b.addr < 4294967296
  flags : b.flags < 4294967296
def RBit (w : World) (cs : List Value) (b : BitL) : Prop :=
  ∃ A d c B r c' vs, cs = [.string ⟨b.name.toArray⟩, .int .u32 b.size, .int .u32 b.addr, .int .u32 b.flags, .slice A d c, .slice B r c'] ∧ RBitAt w b A d c B r c' vs
def RSym (_ : World) (cs : List Value) (y : SymL) : Prop :=
  cs = [.string ⟨y.name.toArray⟩, .int .u32 y.value, .int .i16 y.sect, .int .u16 y.typ, .int .u8 y.cls] ∧ y.value < 4294967296 ∧ -32768 ≤ y.sect ∧ y.sect < 32768 ∧ y.typ < 65536 ∧ y.cls < 256

theorem RRel.keeps {e : TypeId} {w w' : World} {cs : List Value} {r : Nat × Nat × Nat} (h : RRel w cs r) (hk : Keeps e w w') (h1 : 54 ≠ e) : RRel w' cs r := by
  obtain ⟨A, e, h2, h3⟩ := h
  exact ⟨A, e, h2.keeps hk h1, h3⟩
theorem RBit.keeps {e : TypeId} {w w' : World} {cs : List Value} {b : BitL} (h : RBit w cs b) (hk : Keeps e w w') (h1 : 5 ≠ e) (h2 : 54 ≠ e) (h3 : 25 ≠ e) : RBit w' cs b := by
  obtain ⟨A, d, c, B, r, c', vs, e, h⟩ := h
  exact ⟨A, d, c, B, r, c', vs, e, h.data.keeps hk h1, h.cap, h.rels.keeps hk h3, h.recs.mono (fun _ _ hr => hr.keeps hk h2), h.size, h.addr, h.flags⟩
theorem Keeps.wild {w w' : World} (h : Below w.heap.size w w') (e : TypeId) : Keeps e w w' := .of_below h
theorem RRel.later {w w' : World} {cs : List Value} {r : Nat × Nat × Nat} (h : RRel w cs r) (hb : Below w.heap.size w w') : RRel w' cs r := by
  obtain ⟨A, e, h2, h3⟩ := h
  exact ⟨A, e, h2.later hb, h3⟩
theorem RBitAt.later {w w' : World} {b : BitL} {A : Option Addr} {d c : Nat} {B : Option Addr} {r c' : Nat} {vs : List Value} (h : RBitAt w b A d c B r c' vs) (hb : Below w.heap.size w w') : RBitAt w' b A d c B r c' vs :=
  ⟨h.data.later hb, h.cap, h.rels.later hb, h.recs.mono (fun _ _ hr => hr.later hb), h.size, h.addr, h.flags⟩
theorem RBit.later {w w' : World} {cs : List Value} {b : BitL} (h : RBit w cs b) (hb : Below w.heap.size w w') : RBit w' cs b := by
  obtain ⟨A, d, c, B, r, c', vs, e, h⟩ := h
  exact ⟨A, d, c, B, r, c', vs, e, h.later hb⟩

/-- The optional header that is to be made: none, of 32 bits, of 64 bits. -/
def optB (K : Nat) (nums dirs : List Nat) : List UInt8 :=
  if K = 0 then [] else rowB (if K = 64 then optW64 else optW32) nums ++ rowB (List.replicate dirs.length 4) dirs
structure OptV (K : Nat) (nums dirs : List Nat) : Prop where
  kind : (K = 0 ∧ nums = []) ∨ (K = 32 ∧ nums.length = 30 ∧ nums[0]? = some 267) ∨ (K = 64 ∧ nums.length = 29 ∧ nums[0]? = some 523)
  last : K ≠ 0 → ∃ n, n ≤ 16 ∧ dirs.length = 2 * n ∧ nums[nums.length - 1]? = some n
  none : K = 0 → dirs = []
  bnd : ∀ v ∈ nums, v ≤ 18446744073709551615
  bdd : ∀ v ∈ dirs, v ≤ 18446744073709551615

/-- The slices of the value. -/
structure MadeS where
  kind : Nat
  nums : List Nat
  N : Option Addr
  nc : Nat
  dirs : List Nat
  D : Option Addr
  dc : Nat
  B : Option Addr
  bc : Nat
  bvs : List Value
  S : Option Addr
  sc : Nat
  svs : List Value
  X : Option Addr
  xc : Nat
def MadeS.cells (s : MadeS) (m : MadeL) : List Value :=
  [.int .i64 m.stub, .int .u16 m.machine, .int .u32 m.time, .int .u16 m.flags, .int .i64 s.kind, .slice s.N s.nums.length s.nc, .slice s.D s.dirs.length s.dc, .slice s.B m.bits.length s.bc, .slice s.S m.syms.length s.sc, .slice s.X m.syms.length s.xc]
structure MadeV (w : World) (s : MadeS) (m : MadeL) : Prop where
  opt : m.opt = optB s.kind s.nums s.dirs
  ov : OptV s.kind s.nums s.dirs
  nums : RT w 54 s.N 1 s.nums.length (s.nums.map uv)
  nc : s.nums.length ≤ s.nc
  dirs : RT w 54 s.D 1 s.dirs.length (s.dirs.map uv)
  dc : s.dirs.length ≤ s.dc
  bits : RT w 57 s.B 6 m.bits.length s.bvs
  brec : Recs RBit w 6 m.bits.length s.bvs m.bits
  syms : RT w 45 s.S 5 m.syms.length s.svs
  srec : Recs RSym w 5 m.syms.length s.svs m.syms
  aux : RT w 3 s.X 1 m.syms.length (m.syms.map fun y => Value.int .i64 y.aux)
/-- What is wanted of the numbers. -/
structure MadeOk (m : MadeL) : Prop where
  stub : m.stub = 0 ∨ (64 ≤ m.stub ∧ m.stub ≤ 127)
  mach : (m.machine : Int) ∈ machL
  time : m.time < 4294967296
  flags : m.flags < 65536
  b4 : m.bits.length ≤ 4
  bits : ∀ b ∈ m.bits, BitOk b
  s6 : m.syms.length ≤ 6
  syms : ∀ y ∈ m.syms, SymOk y
theorem MadeV.later {w w' : World} {s : MadeS} {m : MadeL} (h : MadeV w s m) (hb : Below w.heap.size w w') : MadeV w' s m :=
  ⟨h.opt, h.ov, h.nums.later hb, h.nc, h.dirs.later hb, h.dc, h.bits.later hb, h.brec.mono (fun _ _ hr => hr.later hb), h.syms.later hb, h.srec, h.aux.later hb⟩

theorem rowB_len : ∀ (ws : List Int) (ns : List Nat), (rowB ws ns).length = widthOf ws
  | [], _ => rfl
  | x :: ws, ns => by
    unfold rowB
    split
    · rw [List.length_append, List.length_replicate, rowB_len ws]; rfl
    · rw [List.length_append, mkBytes_length, rowB_len ws]
      have : x.toNat = x.natAbs := by omega
      rw [this]
      rfl
theorem width_four : ∀ n : Nat, widthOf (List.replicate n 4) = 4 * n
  | 0 => rfl
  | n + 1 => by
    rw [List.replicate_succ]
    show 4 + widthOf (List.replicate n 4) = _
    rw [width_four n]
    omega
/-- What the reader wants of an optional header. -/
def OptOk (l : List UInt8) : Prop :=
  l = [] ∨ (∃ n, n ≤ 16 ∧ l.length = 96 + 8 * n ∧ num false (l.take 2) = 267 ∧ num false ((l.drop 92).take 4) = n) ∨
    (∃ n, n ≤ 16 ∧ l.length = 112 + 8 * n ∧ num false (l.take 2) = 523 ∧ num false ((l.drop 108).take 4) = n)
theorem rowB_pos {x : Int} {ws : List Int} {ns : List Nat} (h : ¬ x < 0) : rowB (x :: ws) ns = mkBytes false x.toNat (ns.headD 0) ++ rowB ws ns.tail := by rw [rowB, if_neg h]
theorem rowB_cat : ∀ (a b : List Int) (ns : List Nat), (∀ x ∈ a, 0 < x) → rowB (a ++ b) ns = rowB a ns ++ rowB b (ns.drop a.length)
  | [], b, ns, _ => rfl
  | x :: a, b, ns, h => by
    have hx := h x (by simp)
    have h0 : ¬ x < 0 := by omega
    show rowB (x :: (a ++ b)) ns = rowB (x :: a) ns ++ _
    rw [rowB_pos h0, rowB_pos h0, rowB_cat a b ns.tail (fun y hy => h y (by simp [hy])), List.append_assoc, List.length_cons]
    cases ns <;> simp
theorem OptV.ok {K : Nat} {nums dirs : List Nat} (h : OptV K nums dirs) : OptOk (optB K nums dirs) := by
  unfold optB OptOk
  have hl := h.last
  have hfirst : ∀ (ws : List Int) (k : Nat) (rest : List UInt8), nums[0]? = some k → k < 65536 → ws.head? = some 2 → num false ((rowB ws nums ++ rest).take 2) = k := by
    intro ws k rest hk hlt hw
    obtain ⟨n0, nt, rfl⟩ : ∃ n0 nt, nums = n0 :: nt := by
      cases nums with
      | nil => simp at hk
      | cons a r => exact ⟨a, r, rfl⟩
    obtain ⟨wt, rfl⟩ : ∃ wt, ws = 2 :: wt := by
      cases ws with
      | nil => simp at hw
      | cons a r => simp at hw; exact ⟨r, by rw [hw]⟩
    simp at hk
    subst hk
    have e : rowB (2 :: wt) (n0 :: nt) = mkBytes false 2 n0 ++ rowB wt nt := rfl
    rw [e, List.append_assoc, List.take_left' (mkBytes_length false 2 n0), num_mkBytes]
    omega
  have hlast : ∀ (ws : List Int) (k p : Nat) (rest : List UInt8), nums.length = ws.length + 1 → (∀ x ∈ ws, 0 < x) → nums[nums.length - 1]? = some k → k ≤ 16 → widthOf ws = p → num false (((rowB (ws ++ [4]) nums ++ rest).drop p).take 4) = k := by
    intro ws k p rest hn hpos hk hlt hp
    rw [rowB_cat ws [4] nums hpos, List.append_assoc, List.drop_left' (by rw [rowB_len, hp])]
    have hd : nums.drop ws.length = [k] := by
      have h1 : ws.length = nums.length - 1 := by omega
      rw [h1] 
      obtain ⟨hlt', he⟩ := List.getElem?_eq_some_iff.1 hk
      rw [List.drop_eq_getElem_cons hlt', he, List.drop_eq_nil_of_le (by omega)]
    rw [hd]
    have e : rowB [4] [k] = mkBytes false 4 k ++ [] := rfl
    rw [e, List.append_nil, List.take_left' (mkBytes_length false 4 k), num_mkBytes]
    omega
  rcases h.kind with ⟨rfl, -⟩ | ⟨rfl, h1, h2⟩ | ⟨rfl, h1, h2⟩
  · exact .inl rfl
  · obtain ⟨n, hn, hd, hk⟩ := hl (by decide)
    refine .inr (.inl ⟨n, hn, ?_, ?_, ?_⟩)
    · rw [if_neg (by decide), if_neg (by decide), List.length_append, rowB_len, rowB_len, width_four, hd]
      have : widthOf optW32 = 96 := by decide
      omega
    · exact hfirst _ 267 _ h2 (by decide) rfl
    · exact hlast [2, 1, 1, 4, 4, 4, 4, 4, 4, 4, 4, 4, 2, 2, 2, 2, 2, 2, 4, 4, 4, 4, 2, 2, 4, 4, 4, 4, 4] n 92 _ (by rw [h1]; rfl) (by decide) hk hn (by decide)
  · obtain ⟨n, hn, hd, hk⟩ := hl (by decide)
    refine .inr (.inr ⟨n, hn, ?_, ?_, ?_⟩)
    · rw [if_neg (by decide), if_pos rfl, List.length_append, rowB_len, rowB_len, width_four, hd]
      have : widthOf optW64 = 112 := by decide
      omega
    · exact hfirst _ 523 _ h2 (by decide) rfl
    · exact hlast [2, 1, 1, 4, 4, 4, 4, 4, 8, 4, 4, 2, 2, 2, 2, 2, 2, 4, 4, 4, 4, 2, 2, 8, 8, 8, 8, 4] n 108 _ (by rw [h1]; rfl) (by decide) hk hn (by decide)
end Go.Proofs.YtbpebngjpecncaaGreatDoor
