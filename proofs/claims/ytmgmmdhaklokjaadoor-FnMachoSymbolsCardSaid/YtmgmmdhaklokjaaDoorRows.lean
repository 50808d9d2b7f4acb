/-
  NARROWER THAN 'FOR EVERY INPUT', by the rows' own cells (each row's printed sentence says how): FnMachoSymbols: laid · FnMachoReloc: laid · FnMachoRelocParts: laid · FnMachoRelocs: laid.
  DERIVED. THE GIVEN ROWS OF THIS SEAT. 4 by the template 'for every input the law returns true; each argument reads behind the call as it read before'; 0 by the template 'total and deterministic' (their statements: YtmgmmdhaklokjaaDoorTotals.lean).
  GIVEN WITH THE SEED: the statements are not yours to turn. If you find one false, say at which input.
  Laid BY PROGRAM, IN A SANDBOX (cutbox-rows.mjs): the forced cells as the released guide's own fill.sh prints them over the translation 3168d6f60dbf4e64… (all of the seat's roots in one cut). By AI agents, Wed Nov 11 2026. No macro, syntax, notation, axiom, sorry.
-/
import Derived.Test.YtmgmmdhaklokjaaDoorChecked
import GoSem.Claim
import GoSem.ClaimJoined
import GoSem.ClaimMapViews
import Derived.JoinedTies
import Derived.KernelRfl
namespace Go.Proofs.YtmgmmdhaklokjaaDoor
/- THE CELL 'sum', in the pinned program and in every row, IS THE sha256 OF THE DUMP (.gsa) THAT YtmgmmdhaklokjaaDoorProg.lean LOADS. Nothing in Lean hashes anything: it is a label: what it is worth is what the hold of that sum in a sandbox is worth. -/
noncomputable def Tryd.pinned : Pinned := { name := "ytmgmmdhaklokjaadoor", sum := "3168d6f60dbf4e643213790259c026de4c30242b12d75a111d021a1f5c5a0bd6", checked := Tryd.checked }
namespace Rows
def none {H : Type} : Left H := { results := [], args := [] }

/- WHAT THE LISTED PACKAGE-LEVEL VARIABLES READ AS WHEN THE CALL BEGINS. Each datum BY PROGRAM (the guide's laid-datum.mjs) off the statement by which the dump's own 'gosem.cut.vars' lays the variable. In a bare row this is a premise. The card (YtmgmmdhaklokjaaDoorCards.lean) ties it to the program's text. -/
def laid_io_ErrShortBuffer {H : Type} : DataW H := .iface "*errors.errorString" (.ptr (.agg [.lit (.string [115, 104, 111, 114, 116, 32, 98, 117, 102, 102, 101, 114])]))
def laid_io_EOF {H : Type} : DataW H := .iface "*errors.errorString" (.ptr (.agg [.lit (.string [69, 79, 70])]))
def laid_io_ErrUnexpectedEOF {H : Type} : DataW H := .iface "*errors.errorString" (.ptr (.agg [.lit (.string [117, 110, 101, 120, 112, 101, 99, 116, 101, 100, 32, 69, 79, 70])]))

/-- 'laws.FnMachoSymbols': WHATEVER THE INPUT: true; the input reads as it did. -/
def fnMachoSymbolsSpec : ChangeSpec := { name := "fnMachoSymbols", fn := fun _ => fun
  | [d1, d2, d3, d4, d5] => { results := [.lit (.bool true)], args := [d1, d2, d3, d4, d5] }
  | _ => none }
def fnMachoSymbolsRow : OpenClaim := { program := "ytmgmmdhaklokjaadoor", sum := "3168d6f60dbf4e643213790259c026de4c30242b12d75a111d021a1f5c5a0bd6", func := "loop.example/pub-g03430/laws.FnMachoSymbols", spec := "fnMachoSymbols", inPlace := ["internal/bytealg.IndexByte"], unfollowed := true, recurses := true, named := ["io.ErrShortBuffer", "io.EOF", "io.ErrUnexpectedEOF"], apart := false, laid := [("io.ErrShortBuffer", laid_io_ErrShortBuffer), ("io.EOF", laid_io_EOF), ("io.ErrUnexpectedEOF", laid_io_ErrUnexpectedEOF)] }
def FnMachoSymbolsSaid : Prop := fnMachoSymbolsRow.holds Tryd.pinned (OpenSpec.ofChange fnMachoSymbolsSpec)

/-- ITS FALSE NEIGHBOUR: 'it returns false'. Refute it at one input. -/
def fnMachoSymbolsWrong : ChangeSpec := { name := "fnMachoSymbols", fn := fun _ => fun
  | [d1, d2, d3, d4, d5] => { results := [.lit (.bool false)], args := [d1, d2, d3, d4, d5] }
  | _ => none }
def FnMachoSymbolsWrongFalsely : Prop := fnMachoSymbolsRow.holds Tryd.pinned (OpenSpec.ofChange fnMachoSymbolsWrong)

/-- 'laws.FnMachoReloc': WHATEVER THE INPUT: true; the input reads as it did. -/
def fnMachoRelocSpec : ChangeSpec := { name := "fnMachoReloc", fn := fun _ => fun
  | [d1, d2, d3] => { results := [.lit (.bool true)], args := [d1, d2, d3] }
  | _ => none }
def fnMachoRelocRow : OpenClaim := { program := "ytmgmmdhaklokjaadoor", sum := "3168d6f60dbf4e643213790259c026de4c30242b12d75a111d021a1f5c5a0bd6", func := "loop.example/pub-g03430/laws.FnMachoReloc", spec := "fnMachoReloc", unfollowed := true, recurses := true, named := ["io.ErrUnexpectedEOF", "io.EOF", "io.ErrShortBuffer"], apart := false, laid := [("io.ErrShortBuffer", laid_io_ErrShortBuffer), ("io.EOF", laid_io_EOF), ("io.ErrUnexpectedEOF", laid_io_ErrUnexpectedEOF)] }
def FnMachoRelocSaid : Prop := fnMachoRelocRow.holds Tryd.pinned (OpenSpec.ofChange fnMachoRelocSpec)

/-- ITS FALSE NEIGHBOUR: 'it returns false'. Refute it at one input. -/
def fnMachoRelocWrong : ChangeSpec := { name := "fnMachoReloc", fn := fun _ => fun
  | [d1, d2, d3] => { results := [.lit (.bool false)], args := [d1, d2, d3] }
  | _ => none }
def FnMachoRelocWrongFalsely : Prop := fnMachoRelocRow.holds Tryd.pinned (OpenSpec.ofChange fnMachoRelocWrong)

/-- 'laws.FnMachoRelocParts': WHATEVER THE INPUT: true; the input reads as it did. -/
def fnMachoRelocPartsSpec : ChangeSpec := { name := "fnMachoRelocParts", fn := fun _ => fun
  | [d1, d2, d3, d4, d5, d6, d7] => { results := [.lit (.bool true)], args := [d1, d2, d3, d4, d5, d6, d7] }
  | _ => none }
def fnMachoRelocPartsRow : OpenClaim := { program := "ytmgmmdhaklokjaadoor", sum := "3168d6f60dbf4e643213790259c026de4c30242b12d75a111d021a1f5c5a0bd6", func := "loop.example/pub-g03430/laws.FnMachoRelocParts", spec := "fnMachoRelocParts", unfollowed := true, recurses := true, named := ["io.ErrUnexpectedEOF", "io.EOF", "io.ErrShortBuffer"], apart := false, laid := [("io.ErrShortBuffer", laid_io_ErrShortBuffer), ("io.EOF", laid_io_EOF), ("io.ErrUnexpectedEOF", laid_io_ErrUnexpectedEOF)] }
def FnMachoRelocPartsSaid : Prop := fnMachoRelocPartsRow.holds Tryd.pinned (OpenSpec.ofChange fnMachoRelocPartsSpec)

/-- ITS FALSE NEIGHBOUR: 'it returns false'. Refute it at one input. -/
def fnMachoRelocPartsWrong : ChangeSpec := { name := "fnMachoRelocParts", fn := fun _ => fun
  | [d1, d2, d3, d4, d5, d6, d7] => { results := [.lit (.bool false)], args := [d1, d2, d3, d4, d5, d6, d7] }
  | _ => none }
def FnMachoRelocPartsWrongFalsely : Prop := fnMachoRelocPartsRow.holds Tryd.pinned (OpenSpec.ofChange fnMachoRelocPartsWrong)

/-- 'laws.FnMachoRelocs': WHATEVER THE INPUT: true; the input reads as it did. -/
def fnMachoRelocsSpec : ChangeSpec := { name := "fnMachoRelocs", fn := fun _ => fun
  | [d1, d2, d3] => { results := [.lit (.bool true)], args := [d1, d2, d3] }
  | _ => none }
def fnMachoRelocsRow : OpenClaim := { program := "ytmgmmdhaklokjaadoor", sum := "3168d6f60dbf4e643213790259c026de4c30242b12d75a111d021a1f5c5a0bd6", func := "loop.example/pub-g03430/laws.FnMachoRelocs", spec := "fnMachoRelocs", unfollowed := true, recurses := true, named := ["io.ErrUnexpectedEOF", "io.EOF", "io.ErrShortBuffer"], apart := false, laid := [("io.ErrShortBuffer", laid_io_ErrShortBuffer), ("io.EOF", laid_io_EOF), ("io.ErrUnexpectedEOF", laid_io_ErrUnexpectedEOF)] }
def FnMachoRelocsSaid : Prop := fnMachoRelocsRow.holds Tryd.pinned (OpenSpec.ofChange fnMachoRelocsSpec)

/-- ITS FALSE NEIGHBOUR: 'it returns false'. Refute it at one input. -/
def fnMachoRelocsWrong : ChangeSpec := { name := "fnMachoRelocs", fn := fun _ => fun
  | [d1, d2, d3] => { results := [.lit (.bool false)], args := [d1, d2, d3] }
  | _ => none }
def FnMachoRelocsWrongFalsely : Prop := fnMachoRelocsRow.holds Tryd.pinned (OpenSpec.ofChange fnMachoRelocsWrong)

/- THE SECOND FORM. 'bulk': how many values and letters a reading holds, each counted each time it is reached (what is shared counts as often as it is met; a slice's spare places count too). A statement '..UptoSaid' is the law's where the arguments, and the package variables that the reading takes, are together of bulk at most 1048576: NARROWER than '..Said'. Prove '..Said' where nothing that the law and all that it calls make is longer than what came in: it says more and counts as full. Else prove '..UptoSaid'. A law counts once. -/
mutual
def uptoBulk {H : Type} : DataW H → Nat
  | .lit (.string bytes) => bytes.length + 1
  | .lit _ => 1
  | .nil => 1
  | .ptr d => uptoBulk d + 1
  | .slice elems spare => uptoBulkAll elems + uptoBulkAll spare + 1
  | .agg parts => uptoBulkAll parts + 1
  | .iface _ d => uptoBulk d + 1
  | .map entries => uptoBulkEntries entries + 1
  | .held _ => 1
def uptoBulkAll {H : Type} : List (DataW H) → Nat
  | [] => 0
  | d :: r => uptoBulk d + uptoBulkAll r
def uptoBulkEntries {H : Type} : List (Lit × DataW H) → Nat
  | [] => 0
  | x :: r => uptoBulkEntry x + uptoBulkEntries r
def uptoBulkEntry {H : Type} : Lit × DataW H → Nat
  | (.string bytes, d) => bytes.length + uptoBulk d + 1
  | (_, d) => uptoBulk d + 1
 end
def uptoSmall : (H : Type) → List (DataW H) → Bool := fun _ ds => decide (uptoBulkAll ds ≤ 1048576)
def OpenSpec.upto (s : _root_.Go.ChangeSpec) : _root_.Go.OpenSpec := { _root_.Go.OpenSpec.ofChange s with cond := some uptoSmall }

/-- 'laws.FnMachoSymbols', WHERE WHAT IT READS IS OF BULK AT MOST 1048576: true; the input reads as it did. -/
def fnMachoSymbolsUptoRow : OpenClaim := { program := "ytmgmmdhaklokjaadoor", sum := "3168d6f60dbf4e643213790259c026de4c30242b12d75a111d021a1f5c5a0bd6", func := "loop.example/pub-g03430/laws.FnMachoSymbols", spec := "fnMachoSymbols", inPlace := ["internal/bytealg.IndexByte"], unfollowed := true, recurses := true, named := ["io.ErrShortBuffer", "io.EOF", "io.ErrUnexpectedEOF"], apart := false, laid := [("io.ErrShortBuffer", laid_io_ErrShortBuffer), ("io.EOF", laid_io_EOF), ("io.ErrUnexpectedEOF", laid_io_ErrUnexpectedEOF)], narrowed := true }
def FnMachoSymbolsUptoSaid : Prop := fnMachoSymbolsUptoRow.holds Tryd.pinned (OpenSpec.upto fnMachoSymbolsSpec)

/-- 'laws.FnMachoReloc', WHERE WHAT IT READS IS OF BULK AT MOST 1048576: true; the input reads as it did. -/
def fnMachoRelocUptoRow : OpenClaim := { program := "ytmgmmdhaklokjaadoor", sum := "3168d6f60dbf4e643213790259c026de4c30242b12d75a111d021a1f5c5a0bd6", func := "loop.example/pub-g03430/laws.FnMachoReloc", spec := "fnMachoReloc", unfollowed := true, recurses := true, named := ["io.ErrUnexpectedEOF", "io.EOF", "io.ErrShortBuffer"], apart := false, laid := [("io.ErrShortBuffer", laid_io_ErrShortBuffer), ("io.EOF", laid_io_EOF), ("io.ErrUnexpectedEOF", laid_io_ErrUnexpectedEOF)], narrowed := true }
def FnMachoRelocUptoSaid : Prop := fnMachoRelocUptoRow.holds Tryd.pinned (OpenSpec.upto fnMachoRelocSpec)

/-- 'laws.FnMachoRelocParts', WHERE WHAT IT READS IS OF BULK AT MOST 1048576: true; the input reads as it did. -/
def fnMachoRelocPartsUptoRow : OpenClaim := { program := "ytmgmmdhaklokjaadoor", sum := "3168d6f60dbf4e643213790259c026de4c30242b12d75a111d021a1f5c5a0bd6", func := "loop.example/pub-g03430/laws.FnMachoRelocParts", spec := "fnMachoRelocParts", unfollowed := true, recurses := true, named := ["io.ErrUnexpectedEOF", "io.EOF", "io.ErrShortBuffer"], apart := false, laid := [("io.ErrShortBuffer", laid_io_ErrShortBuffer), ("io.EOF", laid_io_EOF), ("io.ErrUnexpectedEOF", laid_io_ErrUnexpectedEOF)], narrowed := true }
def FnMachoRelocPartsUptoSaid : Prop := fnMachoRelocPartsUptoRow.holds Tryd.pinned (OpenSpec.upto fnMachoRelocPartsSpec)

/-- 'laws.FnMachoRelocs', WHERE WHAT IT READS IS OF BULK AT MOST 1048576: true; the input reads as it did. -/
def fnMachoRelocsUptoRow : OpenClaim := { program := "ytmgmmdhaklokjaadoor", sum := "3168d6f60dbf4e643213790259c026de4c30242b12d75a111d021a1f5c5a0bd6", func := "loop.example/pub-g03430/laws.FnMachoRelocs", spec := "fnMachoRelocs", unfollowed := true, recurses := true, named := ["io.ErrUnexpectedEOF", "io.EOF", "io.ErrShortBuffer"], apart := false, laid := [("io.ErrShortBuffer", laid_io_ErrShortBuffer), ("io.EOF", laid_io_EOF), ("io.ErrUnexpectedEOF", laid_io_ErrUnexpectedEOF)], narrowed := true }
def FnMachoRelocsUptoSaid : Prop := fnMachoRelocsUptoRow.holds Tryd.pinned (OpenSpec.upto fnMachoRelocsSpec)

end Rows
end Go.Proofs.YtmgmmdhaklokjaaDoor
