/-
  The name of a section: what the figures behind a stroke tell; the reference's reckoning of it.
  Figures of a number; names in eight bytes; texts one behind the other. No program in sight.
  A PE file that is made: its parts as lists of bytes, and where they lie in it. No program in sight.
-/
import Derived.Test.YtbpebngjpecncaaGreatDoorPeStr
import Derived.Test.YtbpebngjpecncaaGreatDoorName
import Derived.Lib.Atoi
import Derived.Test.YtbpebngjpecncaaGreatDoorBytes
import Derived.Test.YtbpebngjpecncaaGreatDoorCoffRec
namespace Go.Proofs.YtbpebngjpecncaaGreatDoor
set_option linter.unusedVariables false
set_option linter.unusedSimpArgs false
set_option maxRecDepth 100000
open Go Go.RowKit
attribute [local go_sem ↓] Go.wp_at_zero Go.wp_at_succ

/-- What is told of a name (its text T): the text, and 0 good, 1 bad, 2 open. -/
def secT (T t : List UInt8) : List UInt8 × Nat :=
  if T.head? ≠ some 47 then (T, 0) else
  if T[1]? = some 43 ∨ T[1]? = some 45 then ([], 2) else
  match Lib.decFrom 0 (T.drop 1) with
  | none => ([], 1)
  | some n => if T.length = 1 ∨ strOk t.length n = false then ([], 1) else (strAt t n, 0)

theorem secT_text {T t : List UInt8} (h : T.head? ≠ some 47) : secT T t = (T, 0) := by unfold secT; rw [if_pos h]
theorem secT_open {T t : List UInt8} (h : T.head? = some 47) (h1 : T[1]? = some 43 ∨ T[1]? = some 45) : secT T t = ([], 2) := by unfold secT; rw [if_neg (fun e => e h), if_pos h1]
theorem secT_bad {T t : List UInt8} (h : T.head? = some 47) (h1 : ¬ (T[1]? = some 43 ∨ T[1]? = some 45)) (h2 : Lib.decFrom 0 (T.drop 1) = none) : secT T t = ([], 1) := by unfold secT; rw [if_neg (fun e => e h), if_neg h1, h2]
theorem secT_short {T t : List UInt8} (h : T.head? = some 47) (h1 : ¬ (T[1]? = some 43 ∨ T[1]? = some 45)) (m : Nat) (h2 : Lib.decFrom 0 (T.drop 1) = some m) (h3 : T.length = 1 ∨ strOk t.length m = false) : secT T t = ([], 1) := by
  unfold secT; rw [if_neg (fun e => e h), if_neg h1, h2]; simp only; rw [if_pos h3]
theorem secT_good {T t : List UInt8} (h : T.head? = some 47) (h1 : ¬ (T[1]? = some 43 ∨ T[1]? = some 45)) (m : Nat) (h2 : Lib.decFrom 0 (T.drop 1) = some m) (h3 : T.length ≠ 1) (h4 : strOk t.length m = true) : secT T t = (strAt t m, 0) := by
  unfold secT; rw [if_neg (fun e => e h), if_neg h1, h2]; simp only; rw [if_neg (by simp [h3, h4])]

/-- So many figures tell a small number. -/
theorem figs_lt {l : List UInt8} {m : Nat} (h : Lib.decFrom 0 l = some m) (hl : l.length ≤ 7) : m < 10000000 := by
  have h1 := Lib.decFrom_lt l 0 m h
  have h2 : 10 ^ l.length ≤ 10 ^ 7 := Nat.pow_le_pow_right (by omega) hl
  omega
theorem figs_lt6 {l : List UInt8} {m : Nat} (h : Lib.decFrom 0 l = some m) (hl : l.length ≤ 6) : m < 1000000 := by
  have h1 := Lib.decFrom_lt l 0 m h
  have h2 : 10 ^ l.length ≤ 10 ^ 6 := Nat.pow_le_pow_right (by omega) hl
  omega
/-- Figures read from place 1 on, one more. -/
theorem figs_step {T : List UInt8} {k m : Nat} (h : Lib.decFrom 0 ((T.drop 1).take k) = some m) (hk : k + 1 < T.length) {d : Nat} (hd : Lib.digitVal T[k + 1] = some d) : Lib.decFrom 0 ((T.drop 1).take (k + 1)) = some (m * 10 + d) :=
  Lib.decFrom_take (T.drop 1) k 0 m T[k + 1] d h (by rw [List.getElem?_drop, Nat.add_comm, List.getElem?_eq_getElem hk]) hd
theorem figs_none {T : List UInt8} {k : Nat} (hk : k + 1 < T.length) (hd : Lib.digitVal T[k + 1] = none) : Lib.decFrom 0 (T.drop 1) = none := by
  cases h : Lib.decFrom 0 (T.drop 1) with
  | none => rfl
  | some n =>
    obtain ⟨d, h2⟩ := Lib.digit_of_decFrom (T.drop 1) 0 n h k T[k + 1] (by rw [List.getElem?_drop, Nat.add_comm, List.getElem?_eq_getElem hk])
    rw [h2] at hd
    cases hd
/-- Atoi's reckoning of what stands behind the stroke. -/
theorem atoi_drop {T : List UInt8} (h1 : ¬ (T[1]? = some 43 ∨ T[1]? = some 45)) : Lib.atoi (T.drop 1) = if T.length ≤ 1 then none else (Lib.decFrom 0 (T.drop 1)).map fun (m : Nat) => (m : Int) := by
  cases hT : T.drop 1 with
  | nil =>
    have : T.length ≤ 1 := by have := congrArg List.length hT; simp at this; omega
    rw [if_pos this]
    rfl
  | cons b r =>
    have hlen : ¬ T.length ≤ 1 := by have := congrArg List.length hT; simp at this; omega
    have hb : T[1]? = some b := by
      have : (T.drop 1)[0]? = some b := by rw [hT]; rfl
      rwa [List.getElem?_drop] at this
    rw [if_neg hlen]
    rw [hb] at h1
    have n1 : (b == 45) = false := by rw [beq_eq_false_iff_ne]; exact fun e => h1 (.inr (by rw [e]))
    have n2 : (b == 43) = false := by rw [beq_eq_false_iff_ne]; exact fun e => h1 (.inl (by rw [e]))
    simp [Lib.atoi, n1, n2, Lib.decNat]
theorem digit_yes {x : UInt8} (h1 : 48 ≤ x.toNat) (h2 : x.toNat ≤ 57) : Lib.digitVal x = some (x.toNat - 48) := by unfold Lib.digitVal; rw [if_pos ⟨h1, h2⟩]
theorem digit_no {x : UInt8} (h : x.toNat < 48 ∨ 57 < x.toNat) : Lib.digitVal x = none := by unfold Lib.digitVal; rw [if_neg (by omega)]
/-- A text behind its first byte. -/
theorem text_tail (y : UInt8) (r : List UInt8) (h : y ≠ 0) : text (y :: r) = y :: text r := by
  unfold text
  rw [List.takeWhile_cons]
  simp [h]

/-- The name of a section, as the package reckons it. -/
def secName (l t : List UInt8) : Option (List UInt8) :=
  if l.head? ≠ some 47 then some (text l) else
  match Lib.atoi (text (l.drop 1)) with
  | none => none
  | some i => if strOk t.length (i % 4294967296).toNat then some (strAt t (i % 4294967296).toNat) else none

open Go Go.RowKit

/-- The figures of a number. -/
def figs (n : Nat) : List UInt8 := if n < 10 then [UInt8.ofNat (48 + n)] else figs (n / 10) ++ [UInt8.ofNat (48 + n % 10)]
termination_by n
decreasing_by omega

theorem fig_toNat (d : Nat) (h : d < 10) : (UInt8.ofNat (48 + d)).toNat = 48 + d := by
  rw [UInt8.toNat_ofNat_of_lt' (by show _ < 256; omega)]
theorem figs_small {n : Nat} (h : n < 10) : figs n = [UInt8.ofNat (48 + n)] := by rw [figs, if_pos h]
theorem figs_big {n : Nat} (h : ¬ n < 10) : figs n = figs (n / 10) ++ [UInt8.ofNat (48 + n % 10)] := by rw [figs, if_neg h]
theorem figs_range : ∀ (n : Nat), ∀ x ∈ figs n, 48 ≤ x.toNat ∧ x.toNat ≤ 57
  | n => by
    intro x hx
    by_cases h : n < 10
    · rw [figs_small h] at hx
      simp only [List.mem_singleton] at hx
      rw [hx, fig_toNat n h]
      omega
    · rw [figs_big h] at hx
      rcases List.mem_append.1 hx with hx | hx
      · exact figs_range (n / 10) x hx
      · simp only [List.mem_singleton] at hx
        rw [hx, fig_toNat _ (by omega)]
        omega
termination_by n => n
decreasing_by omega
theorem decFrom_snoc : ∀ (l : List UInt8) (acc : Nat) (b : UInt8), Lib.decFrom acc (l ++ [b]) = (Lib.decFrom acc l).bind fun m => (Lib.digitVal b).map fun d => m * 10 + d
  | [], acc, b => by
    simp only [List.nil_append, Lib.decFrom, Option.bind_some]
    cases Lib.digitVal b <;> rfl
  | a :: t, acc, b => by
    simp only [List.cons_append, Lib.decFrom]
    cases Lib.digitVal a with
    | none => rfl
    | some d => exact decFrom_snoc t _ b
theorem figs_dec : ∀ n : Nat, Lib.decFrom 0 (figs n) = some n
  | n => by
    by_cases h : n < 10
    · rw [figs_small h]
      simp only [Lib.decFrom]
      rw [digit_yes (by rw [fig_toNat n h]; omega) (by rw [fig_toNat n h]; omega), fig_toNat n h]
      simp
      rfl
    · rw [figs_big h, decFrom_snoc, figs_dec (n / 10), digit_yes (by rw [fig_toNat _ (by omega)]; omega) (by rw [fig_toNat _ (by omega)]; omega), fig_toNat _ (by omega)]
      simp
      omega
termination_by n => n
decreasing_by omega
theorem figs_ne (n : Nat) : figs n ≠ [] := by
  by_cases h : n < 10
  · rw [figs_small h]; simp
  · rw [figs_big h]; simp
theorem figs_len {n : Nat} (h : n < 1000) : (figs n).length ≤ 3 := by
  by_cases h1 : n < 10
  · rw [figs_small h1]; simp
  · rw [figs_big h1]
    by_cases h2 : n / 10 < 10
    · rw [figs_small h2]; simp
    · rw [figs_big h2, figs_small (by omega)]; simp
theorem figs_atoi (n : Nat) : Lib.atoi (figs n) = some (n : Int) := by
  have hr := figs_range n
  cases hf : figs n with
  | nil => exact absurd hf (figs_ne n)
  | cons b r =>
    have hb := hr b (by rw [hf]; simp)
    have n1 : (b == 45) = false := by rw [beq_eq_false_iff_ne]; intro e; rw [e] at hb; exact absurd hb.1 (by decide)
    have n2 : (b == 43) = false := by rw [beq_eq_false_iff_ne]; intro e; rw [e] at hb; exact absurd hb.1 (by decide)
    simp only [Lib.atoi, n1, n2, Lib.decNat]
    rw [← hf, figs_dec n]
    simp [figs_ne n]

/-- A name in eight bytes. -/
def name8B (s : List UInt8) : List UInt8 := s ++ List.replicate (8 - s.length) 0
theorem name8B_len {s : List UInt8} (h : s.length ≤ 8) : (name8B s).length = 8 := by simp [name8B]; omega
theorem text_zero (s r : List UInt8) (h : (0 : UInt8) ∉ s) : text (s ++ 0 :: r) = s := by
  unfold text
  rw [List.takeWhile_append_of_pos (fun x hx => by simp only [bne_iff_ne]; exact fun e => h (by rw [← e]; exact hx))]
  simp
theorem text_none (s : List UInt8) (h : (0 : UInt8) ∉ s) : text s = s := by
  have h1 := (index0_none s h).2
  exact h1
theorem text_name8 {s : List UInt8} (h : (0 : UInt8) ∉ s) : text (name8B s) = s := by
  unfold name8B
  cases hk : 8 - s.length with
  | zero => simpa using text_none s h
  | succ k => rw [List.replicate_succ]; exact text_zero s _ h

/-- A place in the table of texts. -/
def slashed (n : Nat) : List UInt8 := 47 :: figs n
theorem slashed_len {n : Nat} (h : n < 1000) : (slashed n).length ≤ 4 := by have := figs_len h; simp [slashed]; omega
theorem slashed_nz (n : Nat) : (0 : UInt8) ∉ slashed n := by
  intro h
  rcases List.mem_cons.1 h with h | h
  · cases h
  · exact absurd (figs_range n 0 h).1 (by decide)
theorem secName_slashed {n : Nat} (h : n < 1000) (t : List UInt8) (hok : strOk t.length n = true) : secName (name8B (slashed n)) t = some (strAt t n) := by
  have e : name8B (slashed n) = 47 :: (figs n ++ List.replicate (8 - (slashed n).length) 0) := rfl
  have hz := slashed_nz n
  have ht : text ((name8B (slashed n)).drop 1) = figs n := by
    have h1 := text_name8 hz
    rw [e] at h1 ⊢
    rw [text_tail 47 _ (by decide)] at h1
    exact (List.cons.inj h1).2
  unfold secName
  rw [if_neg (by rw [e]; simp), ht, figs_atoi]
  have hm : (((n : Nat) : Int) % 4294967296).toNat = n := by omega
  simp only [hm, hok, if_true]
theorem secName_short {s : List UInt8} (t : List UInt8) (hz : (0 : UInt8) ∉ s) (h0 : s ≠ []) (h47 : s.head? ≠ some 47) : secName (name8B s) t = some s := by
  unfold secName
  have : (name8B s).head? = s.head? := by
    cases s with
    | nil => exact absurd rfl h0
    | cons x r => rfl
  rw [if_pos (by rw [this]; exact h47), text_name8 hz]

open Go Go.RowKit

/-- A number in so many bytes, the lowest first. -/
def le (W v : Nat) : List UInt8 := mkBytes false W v
theorem le_len (W v : Nat) : (le W v).length = W := mkBytes_length false W v
theorem num_le (W v : Nat) : num false (le W v) = v % 256 ^ W := num_mkBytes false W v

/-- A section that is to be made. -/
structure BitL where
  name : List UInt8
  size : Nat
  addr : Nat
  flags : Nat
  data : List UInt8
  relocs : List (Nat × Nat × Nat)
/-- A symbol that is to be made, with so many auxiliary ones. -/
structure SymL where
  name : List UInt8
  value : Nat
  sect : Int
  typ : Nat
  cls : Nat
  aux : Nat

/-- What has been laid of the sections: texts, headers, the rest. -/
structure SecSt where
  texts : List UInt8
  heads : List UInt8
  rest : List UInt8
def relB (r : Nat × Nat × Nat) : List UInt8 := le 4 r.1 ++ (le 4 r.2.1 ++ le 2 r.2.2)
def relsB (l : List (Nat × Nat × Nat)) : List UInt8 := (l.map relB).flatten
def secNm (texts : List UInt8) (b : BitL) : List UInt8 := if 8 < b.name.length then slashed (4 + texts.length) else b.name
def headB (at_ : Nat) (s : SecSt) (b : BitL) : List UInt8 :=
  name8B (secNm s.texts b) ++ (le 4 b.size ++ (le 4 b.addr ++ (le 4 (if b.data = [] then b.size % 64 else b.data.length) ++ (le 4 (if b.data = [] then 0 else at_ + s.rest.length) ++ (le 4 (at_ + s.rest.length + b.data.length) ++ (le 4 0 ++ (le 2 b.relocs.length ++ (le 2 0 ++ le 4 b.flags))))))))
def secStep (at_ : Nat) (s : SecSt) (b : BitL) : SecSt :=
  ⟨if 8 < b.name.length then s.texts ++ b.name ++ [0] else s.texts, s.heads ++ headB at_ s b, s.rest ++ b.data ++ relsB b.relocs⟩
def secSt (at_ : Nat) (bits : List BitL) : Nat → SecSt
  | 0 => ⟨[], [], []⟩
  | k + 1 => match bits[k]? with
    | some b => secStep at_ (secSt at_ bits k) b
    | none => secSt at_ bits k
theorem secSt_succ {at_ : Nat} {bits : List BitL} {k : Nat} {b : BitL} (h : bits[k]? = some b) : secSt at_ bits (k + 1) = secStep at_ (secSt at_ bits k) b := by
  rw [secSt, h]

/-- What has been laid of the symbols: texts, records, how many of these. -/
structure SymSt where
  texts : List UInt8
  rest : List UInt8
  n : Nat
def longName (y : SymL) : Bool := decide (8 < y.name.length ∨ y.name.length = 0)
def symNm (texts : List UInt8) (y : SymL) : List UInt8 := if longName y then List.replicate 4 0 ++ le 4 (4 + texts.length) else name8B y.name
def recB (texts : List UInt8) (y : SymL) : List UInt8 := symNm texts y ++ (le 4 y.value ++ (le 2 (y.sect % 65536).toNat ++ (le 2 y.typ ++ (le 1 y.cls ++ le 1 y.aux))))
def auxB (j k : Nat) : List UInt8 := [UInt8.ofNat (j + 1), UInt8.ofNat k, 3, 4, 5, 6, 7, 8, 9, 10, 11, 12, 13, 14, 15, 16, 17, 18]
def auxsB (n k : Nat) : List UInt8 := ((List.range n).map fun j => auxB j k).flatten
def symStep (k : Nat) (s : SymSt) (y : SymL) : SymSt :=
  ⟨if longName y then s.texts ++ y.name ++ [0] else s.texts, s.rest ++ recB s.texts y ++ auxsB y.aux k, s.n + 1 + y.aux⟩
def symStL (t0 : List UInt8) (syms : List SymL) : Nat → SymSt
  | 0 => ⟨t0, [], 0⟩
  | k + 1 => match syms[k]? with
    | some y => symStep k (symStL t0 syms k) y
    | none => symStL t0 syms k
theorem symStL_succ {t0 : List UInt8} {syms : List SymL} {k : Nat} {y : SymL} (h : syms[k]? = some y) : symStL t0 syms (k + 1) = symStep k (symStL t0 syms k) y := by
  rw [symStL, h]

/-- A file that is to be made; its optional header as bytes. -/
structure MadeL where
  stub : Nat
  machine : Nat
  time : Nat
  flags : Nat
  opt : List UInt8
  bits : List BitL
  syms : List SymL
def stubB (n : Nat) : List UInt8 := [77, 90] ++ (List.replicate 58 0 ++ (le 4 n ++ List.replicate (n - 64) 0))
def preB (m : MadeL) : List UInt8 := if m.stub = 0 then [] else stubB m.stub ++ [80, 69, 0, 0]
def atN (m : MadeL) : Nat := (preB m).length + 20 + m.opt.length + 40 * m.bits.length
def secE (m : MadeL) : SecSt := secSt (atN m) m.bits m.bits.length
def symE (m : MadeL) : SymSt := symStL (secE m).texts m.syms m.syms.length
def placeN (m : MadeL) : Nat := atN m + (secE m).rest.length
def hdrB (m : MadeL) : List UInt8 := le 2 m.machine ++ (le 2 m.bits.length ++ (le 4 m.time ++ (le 4 (placeN m) ++ (le 4 (symE m).n ++ (le 2 m.opt.length ++ le 2 m.flags)))))
def tailB (m : MadeL) : List UInt8 := (secE m).rest ++ ((symE m).rest ++ (le 4 (4 + (symE m).texts.length) ++ (symE m).texts))
def fileB (m : MadeL) : List UInt8 := preB m ++ (hdrB m ++ (m.opt ++ ((secE m).heads ++ tailB m)))

theorem hdrB_len (m : MadeL) : (hdrB m).length = 20 := by simp [hdrB, le_len]
theorem relB_len (r : Nat × Nat × Nat) : (relB r).length = 10 := by simp [relB, le_len]
theorem relsB_len (l : List (Nat × Nat × Nat)) : (relsB l).length = 10 * l.length := by
  induction l with
  | nil => rfl
  | cons r t ih =>
    have : relsB (r :: t) = relB r ++ relsB t := rfl
    rw [this, List.length_append, relB_len, ih, List.length_cons]
    omega

/-- What is wanted of a section; of a symbol. -/
structure BitOk (b : BitL) : Prop where
  n0 : b.name ≠ []
  n20 : b.name.length ≤ 20
  nz : (0 : UInt8) ∉ b.name
  n47 : b.name.head? ≠ some 47
  d : b.data.length ≤ 40
  r : b.relocs.length ≤ 3
structure SymOk (y : SymL) : Prop where
  n0 : y.name ≠ []
  n20 : y.name.length ≤ 20
  nz : (0 : UInt8) ∉ y.name
  aux : y.aux ≤ 2

theorem secNm_len {t : List UInt8} {b : BitL} (ht : t.length ≤ 900) : (secNm t b).length ≤ 8 := by
  unfold secNm
  split
  · have := slashed_len (n := 4 + t.length) (by omega)
    omega
  · omega
theorem headB_len {at_ : Nat} {s : SecSt} {b : BitL} (ht : s.texts.length ≤ 900) : (headB at_ s b).length = 40 := by
  simp only [headB, List.length_append, le_len]
  rw [name8B_len (secNm_len ht)]
theorem symNm_len (t : List UInt8) (y : SymL) : (symNm t y).length = 8 := by
  unfold symNm longName
  split
  · simp [le_len]
  · rename_i h
    have : ¬ (8 < y.name.length ∨ y.name.length = 0) := by simpa using h
    exact name8B_len (by omega)
theorem recB_len (t : List UInt8) (y : SymL) : (recB t y).length = 18 := by simp [recB, le_len, symNm_len]
theorem auxsB_len (n k : Nat) : (auxsB n k).length = 18 * n := by
  unfold auxsB
  induction n with
  | zero => rfl
  | succ n ih => rw [List.range_succ, List.map_append, List.flatten_append, List.length_append, ih]; simp [auxB]; omega

/-- The sections, so far: how long what has been laid is. -/
theorem secSt_len {at_ : Nat} {bits : List BitL} (h4 : bits.length ≤ 4) (hok : ∀ b ∈ bits, BitOk b) : ∀ k, k ≤ bits.length → (secSt at_ bits k).texts.length ≤ 21 * k ∧ (secSt at_ bits k).heads.length = 40 * k ∧ (secSt at_ bits k).rest.length ≤ 70 * k
  | 0, _ => ⟨Nat.le_refl _, rfl, Nat.le_refl _⟩
  | k + 1, hk => by
    obtain ⟨h1, h2, h3⟩ := secSt_len (at_ := at_) h4 hok k (by omega)
    have hb : bits[k]? = some bits[k] := List.getElem?_eq_getElem (by omega)
    have ho := hok bits[k] (List.getElem_mem _)
    rw [secSt_succ hb]
    refine ⟨?_, ?_, ?_⟩
    · simp only [secStep]
      split
      · have := ho.n20; simp; omega
      · omega
    · simp only [secStep, List.length_append, h2]
      rw [headB_len (by omega)]
      omega
    · have := ho.d
      have := ho.r
      simp only [secStep, List.length_append, relsB_len]
      omega
theorem symSt_len' {t0 : List UInt8} {syms : List SymL} (hok : ∀ y ∈ syms, SymOk y) : ∀ k, k ≤ syms.length → (symStL t0 syms k).texts.length ≤ t0.length + 21 * k ∧ (symStL t0 syms k).rest.length = 18 * (symStL t0 syms k).n ∧ (symStL t0 syms k).n ≤ 3 * k
  | 0, _ => ⟨Nat.le_refl _, rfl, Nat.le_refl _⟩
  | k + 1, hk => by
    obtain ⟨h1, h2, h3⟩ := symSt_len' (t0 := t0) hok k (by omega)
    have hy : syms[k]? = some syms[k] := List.getElem?_eq_getElem (by omega)
    have ho := hok syms[k] (List.getElem_mem _)
    rw [symStL_succ hy]
    refine ⟨?_, ?_, ?_⟩
    · simp only [symStep]
      split
      · have := ho.n20; simp; omega
      · omega
    · simp only [symStep, List.length_append, recB_len, auxsB_len, h2]
      omega
    · have := ho.aux
      simp only [symStep]
      omega
/-- Texts only grow. -/
theorem secSt_pre {at_ : Nat} {bits : List BitL} (k : Nat) : ∀ i, ∃ r, (secSt at_ bits (k + i)).texts = (secSt at_ bits k).texts ++ r
  | 0 => ⟨[], by simp⟩
  | i + 1 => by
    obtain ⟨r, hr⟩ := secSt_pre (at_ := at_) (bits := bits) k i
    rw [← Nat.add_assoc]
    cases hb : bits[k + i]? with
    | none => exact ⟨r, by rw [secSt, hb]; exact hr⟩
    | some b =>
      rw [secSt_succ hb]
      simp only [secStep]
      split
      · exact ⟨r ++ b.name ++ [0], by rw [hr]; simp⟩
      · exact ⟨r, hr⟩
theorem symStL_pre {t0 : List UInt8} {syms : List SymL} (k : Nat) : ∀ i, ∃ r, (symStL t0 syms (k + i)).texts = (symStL t0 syms k).texts ++ r
  | 0 => ⟨[], by simp⟩
  | i + 1 => by
    obtain ⟨r, hr⟩ := symStL_pre (t0 := t0) (syms := syms) k i
    rw [← Nat.add_assoc]
    cases hb : syms[k + i]? with
    | none => exact ⟨r, by rw [symStL, hb]; exact hr⟩
    | some b =>
      rw [symStL_succ hb]
      simp only [symStep]
      split
      · exact ⟨r ++ b.name ++ [0], by rw [hr]; simp⟩
      · exact ⟨r, hr⟩
/-- A text that was laid is found. -/
theorem strAt_laid {t s r : List UInt8} (hs : (0 : UInt8) ∉ s) : strOk (t ++ s ++ [0] ++ r).length (4 + t.length) = true ∧ strAt (t ++ s ++ [0] ++ r) (4 + t.length) = s := by
  have h1 : strOk (t ++ s ++ [0] ++ r).length (4 + t.length) = true := by simp [strOk]
  refine ⟨h1, ?_⟩
  unfold strAt
  rw [if_pos h1]
  have : (t ++ s ++ [0] ++ r).drop (4 + t.length - 4) = s ++ 0 :: r := by
    rw [show 4 + t.length - 4 = t.length by omega, List.append_assoc, List.append_assoc, List.drop_left]
    simp
  rw [this, text_zero s r hs]
end Go.Proofs.YtbpebngjpecncaaGreatDoor
