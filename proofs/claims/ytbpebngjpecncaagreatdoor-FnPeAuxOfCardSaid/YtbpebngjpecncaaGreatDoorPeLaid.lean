/-
  What the reader wants of a file's bytes, and that a made file has it. No program in sight.
-/
import Derived.Test.YtbpebngjpecncaaGreatDoorMadeV
import Derived.Test.YtbpebngjpecncaaGreatDoorGFileHeaderP
import Derived.Test.YtbpebngjpecncaaGreatDoorSectionHeader32P
import Derived.Test.YtbpebngjpecncaaGreatDoorTextsP
import Derived.Test.YtbpebngjpecncaaGreatDoorSymsP
import Derived.Test.YtbpebngjpecncaaGreatDoorRemP
import Derived.Test.YtbpebngjpecncaaGreatDoorPeName
namespace Go.Proofs.YtbpebngjpecncaaGreatDoor
set_option linter.unusedVariables false
set_option linter.unusedSimpArgs false
set_option maxRecDepth 100000
open Go Go.RowKit

/-- What is read out of a file. -/
structure FL where
  base : Nat
  optn : Nat
  mach : Nat
  time : Nat
  flags : Nat
  place : Nat
  n : Nat
  texts : List UInt8
  names : List (List UInt8)

/-- The header of a section, as the reader wants it. -/
def SecOk (l : List UInt8) (f : FL) (k : Nat) (name : List UInt8) : Prop :=
  ∃ (nm : List UInt8) (v0 v1 v2 v3 v4 v5 v6 v7 v8 : Nat),
    fSectionHeader32 false ((l.drop (f.base + 20 + f.optn + 40 * k)).take 40) = nm.map bv ++ [.int .u32 v0, .int .u32 v1, .int .u32 v2, .int .u32 v3, .int .u32 v4, .int .u32 v5, .int .u16 v6, .int .u16 v7, .int .u32 v8] ∧
    nm.length = 8 ∧ secName nm f.texts = some name ∧ v2 < 4294967296 ∧ v3 < 4294967296 ∧ v4 < 4294967296 ∧ v6 < 65536 ∧ (v6 ≠ 0 → v4 + 10 * v6 ≤ l.length)

/-- What the reader wants of a file's bytes. -/
structure FileOk (l : List UInt8) (f : FL) : Prop where
  big : 96 ≤ l.length
  small : l.length ≤ 100000
  dos : (f.base = 0 ∧ ∃ x y r, l = x :: y :: r ∧ ¬ (x.toNat = 77 ∧ y.toNat = 90)) ∨
    (∃ s r, 64 ≤ s ∧ f.base = s + 4 ∧ s + 4 ≤ l.length ∧ l = 77 :: 90 :: r ∧ num false ((l.drop 60).take 4) = s ∧ (l.drop s).take 4 = [80, 69, 0, 0])
  hl : f.base + 20 + f.optn + 40 * f.names.length ≤ l.length
  hdr : fGFileHeader false ((l.drop f.base).take 20) = [.int .u16 f.mach, .int .u16 f.names.length, .int .u32 f.time, .int .u32 f.place, .int .u32 f.n, .int .u16 f.optn, .int .u16 f.flags]
  mach : (f.mach : Int) ∈ machL
  nb : f.names.length ≤ 1000
  txt : textsAt f.place (f.place + 18 * f.n) l = some f.texts
  txl : f.texts.length ≤ 100000
  pl0 : 0 < f.place
  n300 : f.n ≤ 300
  plc : f.place + 18 * f.n ≤ l.length
  fin : (symSt (l.drop f.place) f.n).2 = 0
  sym : ∃ (cs : Nat → CoffL) (au : Nat → Nat), (∀ k, k < f.n → (symSt (l.drop f.place) f.n).1[k]? = some (cs k) ∧ (cs k).name.length = 8 ∧ (cs k).aux = (au k : Int) ∧ au k < 256) ∧ (∀ k, k < f.n → (rem au k).2 = 0 → (symRes (cs k).name f.texts).2 = true)
  opt : OptOk ((l.drop (f.base + 20)).take f.optn)
  opl : f.optn < 65536
  secs : ∀ (k : Nat) (name : List UInt8), f.names[k]? = some name → SecOk l f k name

theorem sub_app {α : Type} {a b : List α} {n k : Nat} (h : a.length = n) : (a ++ b).drop (n + k) = b.drop k := by rw [← List.drop_drop, List.drop_left' h]

theorem fileB_at0 (m : MadeL) : (fileB m).drop (preB m).length = hdrB m ++ (m.opt ++ ((secE m).heads ++ tailB m)) := List.drop_left
theorem fileB_hdr (m : MadeL) : ((fileB m).drop (preB m).length).take 20 = hdrB m := by rw [fileB_at0, List.take_left' (hdrB_len m)]
theorem fileB_at1 (m : MadeL) : (fileB m).drop ((preB m).length + 20) = m.opt ++ ((secE m).heads ++ tailB m) := by rw [← List.drop_drop, fileB_at0, List.drop_left' (hdrB_len m)]
theorem fileB_at2 (m : MadeL) : (fileB m).drop ((preB m).length + 20 + m.opt.length) = (secE m).heads ++ tailB m := by rw [← List.drop_drop, fileB_at1, List.drop_left]
theorem heads_len {m : MadeL} (h : MadeOk m) : (secE m).heads.length = 40 * m.bits.length := (secSt_len h.b4 h.bits m.bits.length (Nat.le_refl _)).2.1
theorem fileB_at3 {m : MadeL} (h : MadeOk m) : (fileB m).drop (atN m) = tailB m := by
  unfold atN
  rw [← List.drop_drop, fileB_at2, List.drop_left' (heads_len h)]
theorem fileB_at4 {m : MadeL} (h : MadeOk m) : (fileB m).drop (placeN m) = (symE m).rest ++ (le 4 (4 + (symE m).texts.length) ++ (symE m).texts) := by
  unfold placeN
  rw [← List.drop_drop, fileB_at3 h]
  exact List.drop_left
theorem symRest_len {m : MadeL} (h : MadeOk m) : (symE m).rest.length = 18 * (symE m).n := (symSt_len' h.syms m.syms.length (Nat.le_refl _)).2.1
theorem fileB_at5 {m : MadeL} (h : MadeOk m) : (fileB m).drop (placeN m + 18 * (symE m).n) = le 4 (4 + (symE m).texts.length) ++ (symE m).texts := by
  rw [← List.drop_drop, fileB_at4 h, List.drop_left' (symRest_len h)]
theorem fileB_len {m : MadeL} (h : MadeOk m) : (fileB m).length = placeN m + 18 * (symE m).n + 4 + (symE m).texts.length := by
  have h1 := heads_len h
  have h2 := symRest_len h
  unfold placeN atN
  simp only [fileB, tailB, List.length_append, hdrB_len, le_len, h1, h2]
  omega
theorem pre_len {m : MadeL} (h : m.stub = 0 ∨ (64 ≤ m.stub ∧ m.stub ≤ 127)) : (preB m).length = if m.stub = 0 then 0 else m.stub + 4 := by
  unfold preB stubB
  split
  · rfl
  · simp [le_len]
    omega
theorem texts_len {m : MadeL} (h : MadeOk m) : (secE m).texts.length ≤ 84 ∧ (secE m).rest.length ≤ 280 ∧ (symE m).texts.length ≤ 210 ∧ (symE m).n ≤ 18 := by
  obtain ⟨a, -, c⟩ := secSt_len (at_ := atN m) h.b4 h.bits m.bits.length (Nat.le_refl _)
  obtain ⟨d, -, e⟩ := symSt_len' (t0 := (secE m).texts) h.syms m.syms.length (Nat.le_refl _)
  have := h.b4
  have := h.s6
  have a' : (secE m).texts.length ≤ 21 * m.bits.length := a
  have c' : (secE m).rest.length ≤ 70 * m.bits.length := c
  have d' : (symE m).texts.length ≤ (secE m).texts.length + 21 * m.syms.length := d
  have e' : (symE m).n ≤ 3 * m.syms.length := e
  omega
theorem optOk_len {l : List UInt8} (h : OptOk l) : l.length ≤ 240 := by
  rcases h with rfl | ⟨n, hn, e, -⟩ | ⟨n, hn, e, -⟩
  · decide
  · omega
  · omega
theorem fileB_small {m : MadeL} (h : MadeOk m) (ho : OptOk m.opt) : (preB m).length ≤ 131 ∧ atN m ≤ 551 ∧ placeN m ≤ 831 ∧ (fileB m).length ≤ 1400 := by
  have h1 := fileB_len h
  have h2 := texts_len h
  have h3 := pre_len h.stub
  have h4 := optOk_len ho
  have h5 := h.b4
  have h6 := h.stub
  have h7 : (preB m).length ≤ 131 := by rw [h3]; split <;> omega
  unfold placeN at *
  unfold atN at *
  omega
theorem num_le_lt {W v : Nat} (h : v < 256 ^ W) : num false (le W v) = v := by rw [num_le, Nat.mod_eq_of_lt h]

theorem le_drop {W k v : Nat} (h : W ≤ k) : (le W v).drop k = [] := List.drop_of_length_le (by rw [le_len]; exact h)
theorem le_take {W k v : Nat} (h : W ≤ k) : (le W v).take k = le W v := List.take_of_length_le (by rw [le_len]; exact h)

/-- The header of the file. -/
theorem hdr_cells (m : MadeL) (hm : m.machine < 65536) (hb : m.bits.length < 65536) (ht : m.time < 4294967296) (hp : placeN m < 4294967296) (hn : (symE m).n < 4294967296) (ho : m.opt.length < 65536) (hf : m.flags < 65536) :
    fGFileHeader false (hdrB m) = [.int .u16 m.machine, .int .u16 m.bits.length, .int .u32 m.time, .int .u32 (placeN m), .int .u32 (symE m).n, .int .u16 m.opt.length, .int .u16 m.flags] := by
  have e0 := num_le_lt (W := 2) (v := m.machine) (by omega)
  have e1 := num_le_lt (W := 2) (v := m.bits.length) (by omega)
  have e2 := num_le_lt (W := 4) (v := m.time) (by omega)
  have e3 := num_le_lt (W := 4) (v := placeN m) (by omega)
  have e4 := num_le_lt (W := 4) (v := (symE m).n) (by omega)
  have e5 := num_le_lt (W := 2) (v := m.opt.length) (by omega)
  have e6 := num_le_lt (W := 2) (v := m.flags) (by omega)
  simp [fGFileHeader, hdrB, List.drop_append, List.take_append, le_len, le_drop, le_take, e0, e1, e2, e3, e4, e5, e6]
/-- The header of a section. -/
theorem sec_cells {at_ : Nat} {s : SecSt} {b : BitL} (ht : s.texts.length ≤ 900) (hb : BitOk b) (h0 : b.size < 4294967296) (h1 : b.addr < 4294967296) (h2 : b.flags < 4294967296) (h3 : at_ + s.rest.length ≤ 100000) :
    fSectionHeader32 false (headB at_ s b) = (name8B (secNm s.texts b)).map bv ++ [.int .u32 b.size, .int .u32 b.addr, .int .u32 ((if b.data = [] then b.size % 64 else b.data.length : Nat) : Int), .int .u32 ((if b.data = [] then 0 else at_ + s.rest.length : Nat) : Int), .int .u32 ((at_ + s.rest.length + b.data.length : Nat) : Int), .int .u32 ((0 : Nat) : Int), .int .u16 b.relocs.length, .int .u16 ((0 : Nat) : Int), .int .u32 b.flags] := by
  have hX := name8B_len (secNm_len (b := b) ht)
  have hr := hb.r
  have hd := hb.d
  unfold headB
  generalize name8B (secNm s.texts b) = X at *
  obtain ⟨n2, hn2⟩ : ∃ n, (if b.data = [] then b.size % 64 else b.data.length) = n := ⟨_, rfl⟩
  obtain ⟨n3, hn3⟩ : ∃ n, (if b.data = [] then 0 else at_ + s.rest.length) = n := ⟨_, rfl⟩
  have b2 : n2 < 4294967296 := by rw [← hn2]; split <;> omega
  have b3 : n3 < 4294967296 := by rw [← hn3]; split <;> omega
  rw [hn2, hn3]
  have hXd : ∀ k, 8 ≤ k → X.drop k = [] := fun k h => List.drop_of_length_le (by omega)
  have hXt : X.take 8 = X := List.take_of_length_le (by omega)
  have e0 := num_le_lt (W := 4) (v := b.size) (by omega)
  have e1 := num_le_lt (W := 4) (v := b.addr) (by omega)
  have e2 := num_le_lt (W := 4) (v := n2) (by omega)
  have e3 := num_le_lt (W := 4) (v := n3) (by omega)
  have e4 := num_le_lt (W := 4) (v := at_ + s.rest.length + b.data.length) (by omega)
  have e5 := num_le_lt (W := 4) (v := 0) (by omega)
  have e6 := num_le_lt (W := 2) (v := b.relocs.length) (by omega)
  have e7 := num_le_lt (W := 2) (v := 0) (by omega)
  have e8 := num_le_lt (W := 4) (v := b.flags) (by omega)
  simp [fSectionHeader32, List.drop_append, List.take_append, le_len, le_drop, le_take, hX, hXd, hXt, e0, e1, e2, e3, e4, e5, e6, e7, e8]

/-- What was laid stays laid. -/
theorem secSt_more {at_ : Nat} {bits : List BitL} (k : Nat) : ∀ i, ∃ r h, (secSt at_ bits (k + i)).heads = (secSt at_ bits k).heads ++ h ∧ (secSt at_ bits (k + i)).rest = (secSt at_ bits k).rest ++ r
  | 0 => ⟨[], [], by simp, by simp⟩
  | i + 1 => by
    obtain ⟨r, h, h1, h2⟩ := secSt_more (at_ := at_) (bits := bits) k i
    rw [← Nat.add_assoc]
    cases hb : bits[k + i]? with
    | none => exact ⟨r, h, by rw [secSt, hb]; exact h1, by rw [secSt, hb]; exact h2⟩
    | some b =>
      rw [secSt_succ hb]
      exact ⟨r ++ b.data ++ relsB b.relocs, h ++ headB at_ (secSt at_ bits (k + i)) b, by simp only [secStep, h1, List.append_assoc], by simp only [secStep, h2, List.append_assoc]⟩
theorem head_at {m : MadeL} (h : MadeOk m) (r : List UInt8) {k : Nat} {b : BitL} (hb : m.bits[k]? = some b) : (((secE m).heads ++ r).drop (40 * k)).take 40 = headB (atN m) (secSt (atN m) m.bits k) b := by
  have hk := (List.getElem?_eq_some_iff.1 hb).1
  obtain ⟨-, hh, e1, -⟩ := secSt_more (at_ := atN m) (bits := m.bits) (k + 1) (m.bits.length - (k + 1))
  rw [show k + 1 + (m.bits.length - (k + 1)) = m.bits.length by omega, secSt_succ hb] at e1
  obtain ⟨l1, l2, -⟩ := secSt_len (at_ := atN m) h.b4 h.bits k (by omega)
  have h4 := h.b4
  unfold secE
  rw [e1]
  simp only [secStep, List.append_assoc]
  rw [List.drop_left' l2, List.take_left' (headB_len (by omega))]
theorem rest_at {m : MadeL} {k : Nat} {b : BitL} (hb : m.bits[k]? = some b) : (secSt (atN m) m.bits k).rest.length + b.data.length + 10 * b.relocs.length ≤ (secE m).rest.length := by
  have hk := (List.getElem?_eq_some_iff.1 hb).1
  obtain ⟨r, -, -, e1⟩ := secSt_more (at_ := atN m) (bits := m.bits) (k + 1) (m.bits.length - (k + 1))
  rw [show k + 1 + (m.bits.length - (k + 1)) = m.bits.length by omega, secSt_succ hb] at e1
  unfold secE
  rw [e1]
  simp only [secStep, List.length_append, relsB_len]
  omega
/-- The name of a section is found. -/
theorem secName_at {m : MadeL} (h : MadeOk m) {k : Nat} {b : BitL} (hb : m.bits[k]? = some b) : secName (name8B (secNm (secSt (atN m) m.bits k).texts b)) (symE m).texts = some b.name := by
  have hk := (List.getElem?_eq_some_iff.1 hb).1
  have ho := h.bits b (List.mem_of_getElem? hb)
  obtain ⟨l1, -, -⟩ := secSt_len (at_ := atN m) h.b4 h.bits k (by omega)
  have h4 := h.b4
  unfold secNm
  split
  · rename_i h8
    obtain ⟨r1, e1⟩ := secSt_pre (at_ := atN m) (bits := m.bits) (k + 1) (m.bits.length - (k + 1))
    rw [show k + 1 + (m.bits.length - (k + 1)) = m.bits.length by omega, secSt_succ hb] at e1
    obtain ⟨r2, e2⟩ := symStL_pre (t0 := (secE m).texts) (syms := m.syms) 0 m.syms.length
    rw [Nat.zero_add] at e2
    have e3 : (symE m).texts = (secSt (atN m) m.bits k).texts ++ b.name ++ [0] ++ (r1 ++ r2) := by
      unfold symE
      rw [e2]
      show (secE m).texts ++ r2 = _
      unfold secE
      rw [e1]
      simp only [secStep, if_pos h8, List.append_assoc]
    obtain ⟨g1, g2⟩ := strAt_laid (t := (secSt (atN m) m.bits k).texts) (s := b.name) (r := r1 ++ r2) ho.nz
    rw [e3, secName_slashed (by omega) _ g1, g2]
  · exact secName_short _ ho.nz ho.n0 ho.n47
theorem text_laid {m : MadeL} (h : MadeOk m) (ho : OptOk m.opt) : textsAt (placeN m) (placeN m + 18 * (symE m).n) (fileB m) = some (symE m).texts := by
  have h1 := fileB_len h
  have h2 := texts_len h
  have h3 : 0 < placeN m := by unfold placeN atN; omega
  have hs := fileB_small h ho
  have e := num_le_lt (W := 4) (v := 4 + (symE m).texts.length) (by omega)
  have h5 := fileB_at5 h
  unfold textsAt
  rw [if_neg (by omega), if_neg (by omega), h5, List.take_left' (le_len _ _), e]
  by_cases h0 : (symE m).texts.length = 0
  · rw [if_pos (by omega), List.length_eq_zero_iff.1 h0]
  · rw [if_neg (by omega), if_neg (by omega), ← List.drop_drop, h5, List.drop_left' (le_len _ _), Nat.add_sub_cancel_left, List.take_length]
theorem dos_laid {m : MadeL} (h : MadeOk m) (h96 : 96 ≤ (fileB m).length) : ((preB m).length = 0 ∧ ∃ x y r, fileB m = x :: y :: r ∧ ¬ (x.toNat = 77 ∧ y.toNat = 90)) ∨
    (∃ s r, 64 ≤ s ∧ (preB m).length = s + 4 ∧ s + 4 ≤ (fileB m).length ∧ fileB m = 77 :: 90 :: r ∧ num false (((fileB m).drop 60).take 4) = s ∧ ((fileB m).drop s).take 4 = [80, 69, 0, 0]) := by
  have hp := pre_len h.stub
  rcases h.stub with h0 | h1
  · left
    rw [if_pos h0] at hp
    refine ⟨hp, ?_⟩
    have e : preB m = [] := by unfold preB; rw [if_pos h0]
    have hm := h.mach
    simp only [machL, List.mem_cons, List.not_mem_nil, or_false] at hm
    have e2 : fileB m = byteAt m.machine 0 :: byteAt m.machine 1 :: (fileB m).drop 2 := by
      have : (fileB m).take 2 = le 2 m.machine := by
        unfold fileB hdrB
        rw [e, List.nil_append, List.append_assoc, List.take_left' (le_len _ _)]
      have h3 := List.take_append_drop 2 (fileB m)
      rw [this] at h3
      exact h3.symm
    refine ⟨_, _, _, e2, ?_⟩
    rw [byteAt_toNat, byteAt_toNat]
    omega
  · right
    have h0 : m.stub ≠ 0 := by omega
    rw [if_neg h0] at hp
    have e : preB m = stubB m.stub ++ [80, 69, 0, 0] := by unfold preB; rw [if_neg h0]
    have hl : (stubB m.stub).length = m.stub := by simp [stubB, le_len]; omega
    have e0 : fileB m = stubB m.stub ++ ([80, 69, 0, 0] ++ (hdrB m ++ (m.opt ++ ((secE m).heads ++ tailB m)))) := by
      unfold fileB
      rw [e, List.append_assoc]
    have e1 : ∀ R : List UInt8, stubB m.stub ++ R = 77 :: 90 :: (List.replicate 58 0 ++ (le 4 m.stub ++ (List.replicate (m.stub - 64) 0 ++ R))) := by
      intro R
      unfold stubB
      simp
    refine ⟨m.stub, _, h1.1, hp, ?_, by rw [e0]; exact e1 _, ?_, ?_⟩
    · rw [e0]
      simp [hl]
    · have : (fileB m).drop 60 = le 4 m.stub ++ (List.replicate (m.stub - 64) 0 ++ ([80, 69, 0, 0] ++ (hdrB m ++ (m.opt ++ ((secE m).heads ++ tailB m))))) := by
        rw [e0, e1]
        exact List.drop_left' (l₁ := 77 :: 90 :: List.replicate 58 0) (by simp)
      rw [this, List.take_left' (le_len _ _)]
      exact num_le_lt (by omega)
    · rw [e0, List.drop_left' hl]
      rfl
/-- What is read out of a made file. -/
def flOf (m : MadeL) : FL := ⟨(preB m).length, m.opt.length, m.machine, m.time, m.flags, placeN m, (symE m).n, (symE m).texts, m.bits.map (·.name)⟩
/-- The numbers of the sections are numbers of 32 bits. -/
def BitsLt (m : MadeL) : Prop := ∀ (k : Nat) (b : BitL), m.bits[k]? = some b → b.size < 4294967296 ∧ b.addr < 4294967296 ∧ b.flags < 4294967296
theorem secs_laid {m : MadeL} (h : MadeOk m) (ho : OptOk m.opt) (hlt : BitsLt m) (k : Nat) (name : List UInt8) (hk : (flOf m).names[k]? = some name) : SecOk (fileB m) (flOf m) k name := by
  obtain ⟨b, hb, rfl⟩ : ∃ b, m.bits[k]? = some b ∧ b.name = name := by
    rw [show (flOf m).names = m.bits.map (·.name) from rfl, List.getElem?_map] at hk
    cases hq : m.bits[k]? with
    | none => rw [hq] at hk; cases hk
    | some b => rw [hq] at hk; exact ⟨b, rfl, Option.some.inj hk⟩
  have hk' := (List.getElem?_eq_some_iff.1 hb).1
  have hob := h.bits b (List.mem_of_getElem? hb)
  obtain ⟨b0, b1, b2⟩ := hlt k b hb
  obtain ⟨l1, -, l3⟩ := secSt_len (at_ := atN m) h.b4 h.bits k (by omega)
  have h4 := h.b4
  have hs := fileB_small h ho
  have hd := hob.d
  have hr := hob.r
  have hra := rest_at hb
  have hfl := fileB_len h
  have hpl : placeN m = atN m + (secE m).rest.length := rfl
  refine ⟨name8B (secNm (secSt (atN m) m.bits k).texts b), b.size, b.addr, if b.data = [] then b.size % 64 else b.data.length, if b.data = [] then 0 else atN m + (secSt (atN m) m.bits k).rest.length, atN m + (secSt (atN m) m.bits k).rest.length + b.data.length, 0, b.relocs.length, 0, b.flags, ?_, name8B_len (secNm_len (by omega)), secName_at h hb, ?_, ?_, by omega, by omega, fun _ => by omega⟩
  · have e : ((fileB m).drop ((flOf m).base + 20 + (flOf m).optn + 40 * k)).take 40 = headB (atN m) (secSt (atN m) m.bits k) b := by
      rw [← List.drop_drop]
      show ((List.drop (40 * k) ((fileB m).drop ((preB m).length + 20 + m.opt.length))).take 40) = _
      rw [fileB_at2, head_at h _ hb]
    rw [e, sec_cells (by omega) hob b0 b1 b2 (by omega)]
  · split <;> omega
  · split <;> omega
/-- What is wanted of the symbols. -/
def SymsGood (m : MadeL) : Prop := (symSt ((fileB m).drop (placeN m)) (symE m).n).2 = 0 ∧ ∃ (cs : Nat → CoffL) (au : Nat → Nat), (∀ k, k < (symE m).n → (symSt ((fileB m).drop (placeN m)) (symE m).n).1[k]? = some (cs k) ∧ (cs k).name.length = 8 ∧ (cs k).aux = (au k : Int) ∧ au k < 256) ∧ (∀ k, k < (symE m).n → (rem au k).2 = 0 → (symRes (cs k).name (symE m).texts).2 = true)
theorem file_laid {m : MadeL} (h : MadeOk m) (ho : OptOk m.opt) (hlt : BitsLt m) (h96 : 96 ≤ (fileB m).length) (hsy : SymsGood m) : FileOk (fileB m) (flOf m) := by
  have hs := fileB_small h ho
  have ht := texts_len h
  have hl := fileB_len h
  have hol := optOk_len ho
  have h4 := h.b4
  have hm : m.machine < 65536 := by
    have := h.mach
    simp only [machL, List.mem_cons, List.not_mem_nil, or_false] at this
    omega
  have hn : (flOf m).names.length = m.bits.length := by simp [flOf]
  have hpl : placeN m = atN m + (secE m).rest.length := rfl
  have hat : atN m = (preB m).length + 20 + m.opt.length + 40 * m.bits.length := rfl
  refine ⟨h96, by omega, dos_laid h h96, ?_, ?_, h.mach, by rw [hn]; omega, text_laid h ho, ?_, ?_, ?_, ?_, hsy.1, hsy.2, ?_, ?_, secs_laid h ho hlt⟩
  · rw [hn]
    show (preB m).length + 20 + m.opt.length + 40 * m.bits.length ≤ _
    omega
  · rw [hn]
    show fGFileHeader false (((fileB m).drop (preB m).length).take 20) = _
    rw [fileB_hdr]
    exact hdr_cells m hm (by omega) h.time (by omega) (by omega) (by omega) h.flags
  · show (symE m).texts.length ≤ _
    omega
  · show 0 < placeN m
    omega
  · show (symE m).n ≤ _
    omega
  · show placeN m + 18 * (symE m).n ≤ _
    omega
  · show OptOk (((fileB m).drop ((preB m).length + 20)).take m.opt.length)
    rw [fileB_at1, List.take_left]
    exact ho
  · show m.opt.length < _
    omega
/-- Where there are no symbols. -/
theorem syms_none {m : MadeL} (h : m.syms = []) : SymsGood m := by
  have e : (symE m).n = 0 := by unfold symE; rw [h]; rfl
  refine ⟨by rw [e]; rfl, fun _ => ⟨[], 0, 0, 0, 0, 0⟩, fun _ => 0, fun k hk => by omega, fun k hk => by omega⟩
end Go.Proofs.YtbpebngjpecncaaGreatDoor
