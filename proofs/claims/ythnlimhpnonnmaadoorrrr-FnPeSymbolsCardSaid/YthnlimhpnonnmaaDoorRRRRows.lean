/-
  NARROWER THAN 'FOR EVERY INPUT', by the rows' own cells (each row's printed sentence says how): FnPeHeader: laid · FnPeCoff: laid · FnPeSection: laid · FnPeAux: laid · FnPeRelocs: laid · FnPeSymbols: laid · FnPeTexts: laid.
  DERIVED. THE GIVEN ROWS OF THIS SEAT. 7 by the template 'for every input the law returns true; each argument reads behind the call as it read before'; 0 by the template 'total and deterministic' (their statements: YthnlimhpnonnmaaDoorRRRTotals.lean).
  GIVEN WITH THE SEED: the statements are not yours to turn. If you find one false, say at which input.
  Laid BY PROGRAM, IN A SANDBOX (cutbox-rows.mjs): the forced cells as the released guide's own fill.sh prints them over the translation 448c4769e9568e51… (all of the seat's roots in one cut). By AI agents, Wed Nov 11 2026. No macro, syntax, notation, axiom, sorry.
-/
import Derived.Test.YthnlimhpnonnmaaDoorRRRChecked
import GoSem.Claim
import GoSem.ClaimJoined
import GoSem.ClaimMapViews
import Derived.JoinedTies
import Derived.KernelRfl
namespace Go.Proofs.YthnlimhpnonnmaaDoorRRR
/- THE CELL 'sum', in the pinned program and in every row, IS THE sha256 OF THE DUMP (.gsa) THAT YthnlimhpnonnmaaDoorRRRProg.lean LOADS. Nothing in Lean hashes anything: it is a label: what it is worth is what the hold of that sum in a sandbox is worth. -/
noncomputable def Tryd.pinned : Pinned := { name := "ythnlimhpnonnmaadoorrrr", sum := "448c4769e9568e51b9a1f34a79cb0866bd652258e4c7e9642ea8a89b42a99048", checked := Tryd.checked }
namespace Rows
def none {H : Type} : Left H := { results := [], args := [] }

/- WHAT THE LISTED PACKAGE-LEVEL VARIABLES READ AS WHEN THE CALL BEGINS. Each datum BY PROGRAM (the guide's laid-datum.mjs) off the statement by which the dump's own 'gosem.cut.vars' lays the variable. In a bare row this is a premise. The card (YthnlimhpnonnmaaDoorRRRCards.lean) ties it to the program's text. -/
def laid_io_ErrShortBuffer {H : Type} : DataW H := .iface "*errors.errorString" (.ptr (.agg [.lit (.string [115, 104, 111, 114, 116, 32, 98, 117, 102, 102, 101, 114])]))
def laid_io_EOF {H : Type} : DataW H := .iface "*errors.errorString" (.ptr (.agg [.lit (.string [69, 79, 70])]))
def laid_io_ErrUnexpectedEOF {H : Type} : DataW H := .iface "*errors.errorString" (.ptr (.agg [.lit (.string [117, 110, 101, 120, 112, 101, 99, 116, 101, 100, 32, 69, 79, 70])]))

/-- 'laws.FnPeHeader': WHATEVER THE INPUT: true; the input reads as it did. -/
def fnPeHeaderSpec : ChangeSpec := { name := "fnPeHeader", fn := fun _ => fun
  | [d] => { results := [.lit (.bool true)], args := [d] }
  | _ => none }
def fnPeHeaderRow : OpenClaim := { program := "ythnlimhpnonnmaadoorrrr", sum := "448c4769e9568e51b9a1f34a79cb0866bd652258e4c7e9642ea8a89b42a99048", func := "loop.example/pub-g03430/laws.FnPeHeader", spec := "fnPeHeader", unfollowed := true, recurses := true, named := ["io.ErrShortBuffer", "io.EOF", "io.ErrUnexpectedEOF"], apart := false, laid := [("io.ErrShortBuffer", laid_io_ErrShortBuffer), ("io.EOF", laid_io_EOF), ("io.ErrUnexpectedEOF", laid_io_ErrUnexpectedEOF)] }
def FnPeHeaderSaid : Prop := fnPeHeaderRow.holds Tryd.pinned (OpenSpec.ofChange fnPeHeaderSpec)

/-- ITS FALSE NEIGHBOUR: 'it returns false'. Refute it at one input. -/
def fnPeHeaderWrong : ChangeSpec := { name := "fnPeHeader", fn := fun _ => fun
  | [d] => { results := [.lit (.bool false)], args := [d] }
  | _ => none }
def FnPeHeaderWrongFalsely : Prop := fnPeHeaderRow.holds Tryd.pinned (OpenSpec.ofChange fnPeHeaderWrong)

/-- 'laws.FnPeCoff': WHATEVER THE INPUT: true; the input reads as it did. -/
def fnPeCoffSpec : ChangeSpec := { name := "fnPeCoff", fn := fun _ => fun
  | [d] => { results := [.lit (.bool true)], args := [d] }
  | _ => none }
def fnPeCoffRow : OpenClaim := { program := "ythnlimhpnonnmaadoorrrr", sum := "448c4769e9568e51b9a1f34a79cb0866bd652258e4c7e9642ea8a89b42a99048", func := "loop.example/pub-g03430/laws.FnPeCoff", spec := "fnPeCoff", unfollowed := true, recurses := true, named := ["io.ErrShortBuffer", "io.EOF", "io.ErrUnexpectedEOF"], apart := false, laid := [("io.ErrShortBuffer", laid_io_ErrShortBuffer), ("io.EOF", laid_io_EOF), ("io.ErrUnexpectedEOF", laid_io_ErrUnexpectedEOF)] }
def FnPeCoffSaid : Prop := fnPeCoffRow.holds Tryd.pinned (OpenSpec.ofChange fnPeCoffSpec)

/-- ITS FALSE NEIGHBOUR: 'it returns false'. Refute it at one input. -/
def fnPeCoffWrong : ChangeSpec := { name := "fnPeCoff", fn := fun _ => fun
  | [d] => { results := [.lit (.bool false)], args := [d] }
  | _ => none }
def FnPeCoffWrongFalsely : Prop := fnPeCoffRow.holds Tryd.pinned (OpenSpec.ofChange fnPeCoffWrong)

/-- 'laws.FnPeSection': WHATEVER THE INPUT: true; the input reads as it did. -/
def fnPeSectionSpec : ChangeSpec := { name := "fnPeSection", fn := fun _ => fun
  | [d] => { results := [.lit (.bool true)], args := [d] }
  | _ => none }
def fnPeSectionRow : OpenClaim := { program := "ythnlimhpnonnmaadoorrrr", sum := "448c4769e9568e51b9a1f34a79cb0866bd652258e4c7e9642ea8a89b42a99048", func := "loop.example/pub-g03430/laws.FnPeSection", spec := "fnPeSection", unfollowed := true, recurses := true, named := ["io.ErrShortBuffer", "io.EOF", "io.ErrUnexpectedEOF"], apart := false, laid := [("io.ErrShortBuffer", laid_io_ErrShortBuffer), ("io.EOF", laid_io_EOF), ("io.ErrUnexpectedEOF", laid_io_ErrUnexpectedEOF)] }
def FnPeSectionSaid : Prop := fnPeSectionRow.holds Tryd.pinned (OpenSpec.ofChange fnPeSectionSpec)

/-- ITS FALSE NEIGHBOUR: 'it returns false'. Refute it at one input. -/
def fnPeSectionWrong : ChangeSpec := { name := "fnPeSection", fn := fun _ => fun
  | [d] => { results := [.lit (.bool false)], args := [d] }
  | _ => none }
def FnPeSectionWrongFalsely : Prop := fnPeSectionRow.holds Tryd.pinned (OpenSpec.ofChange fnPeSectionWrong)

/-- 'laws.FnPeAux': WHATEVER THE INPUT: true; the input reads as it did. -/
def fnPeAuxSpec : ChangeSpec := { name := "fnPeAux", fn := fun _ => fun
  | [d] => { results := [.lit (.bool true)], args := [d] }
  | _ => none }
def fnPeAuxRow : OpenClaim := { program := "ythnlimhpnonnmaadoorrrr", sum := "448c4769e9568e51b9a1f34a79cb0866bd652258e4c7e9642ea8a89b42a99048", func := "loop.example/pub-g03430/laws.FnPeAux", spec := "fnPeAux", unfollowed := true, recurses := true, named := ["io.ErrShortBuffer", "io.EOF", "io.ErrUnexpectedEOF"], apart := false, laid := [("io.ErrShortBuffer", laid_io_ErrShortBuffer), ("io.EOF", laid_io_EOF), ("io.ErrUnexpectedEOF", laid_io_ErrUnexpectedEOF)] }
def FnPeAuxSaid : Prop := fnPeAuxRow.holds Tryd.pinned (OpenSpec.ofChange fnPeAuxSpec)

/-- ITS FALSE NEIGHBOUR: 'it returns false'. Refute it at one input. -/
def fnPeAuxWrong : ChangeSpec := { name := "fnPeAux", fn := fun _ => fun
  | [d] => { results := [.lit (.bool false)], args := [d] }
  | _ => none }
def FnPeAuxWrongFalsely : Prop := fnPeAuxRow.holds Tryd.pinned (OpenSpec.ofChange fnPeAuxWrong)

/-- 'laws.FnPeRelocs': WHATEVER THE INPUT: true; the input reads as it did. -/
def fnPeRelocsSpec : ChangeSpec := { name := "fnPeRelocs", fn := fun _ => fun
  | [d1, d2, d3] => { results := [.lit (.bool true)], args := [d1, d2, d3] }
  | _ => none }
def fnPeRelocsRow : OpenClaim := { program := "ythnlimhpnonnmaadoorrrr", sum := "448c4769e9568e51b9a1f34a79cb0866bd652258e4c7e9642ea8a89b42a99048", func := "loop.example/pub-g03430/laws.FnPeRelocs", spec := "fnPeRelocs", unfollowed := true, recurses := true, named := ["io.ErrShortBuffer", "io.EOF", "io.ErrUnexpectedEOF"], apart := false, laid := [("io.ErrShortBuffer", laid_io_ErrShortBuffer), ("io.EOF", laid_io_EOF), ("io.ErrUnexpectedEOF", laid_io_ErrUnexpectedEOF)] }
def FnPeRelocsSaid : Prop := fnPeRelocsRow.holds Tryd.pinned (OpenSpec.ofChange fnPeRelocsSpec)

/-- ITS FALSE NEIGHBOUR: 'it returns false'. Refute it at one input. -/
def fnPeRelocsWrong : ChangeSpec := { name := "fnPeRelocs", fn := fun _ => fun
  | [d1, d2, d3] => { results := [.lit (.bool false)], args := [d1, d2, d3] }
  | _ => none }
def FnPeRelocsWrongFalsely : Prop := fnPeRelocsRow.holds Tryd.pinned (OpenSpec.ofChange fnPeRelocsWrong)

/-- 'laws.FnPeSymbols': WHATEVER THE INPUT: true; the input reads as it did. -/
def fnPeSymbolsSpec : ChangeSpec := { name := "fnPeSymbols", fn := fun _ => fun
  | [d1, d2, d3] => { results := [.lit (.bool true)], args := [d1, d2, d3] }
  | _ => none }
def fnPeSymbolsRow : OpenClaim := { program := "ythnlimhpnonnmaadoorrrr", sum := "448c4769e9568e51b9a1f34a79cb0866bd652258e4c7e9642ea8a89b42a99048", func := "loop.example/pub-g03430/laws.FnPeSymbols", spec := "fnPeSymbols", unfollowed := true, recurses := true, named := ["io.ErrShortBuffer", "io.EOF", "io.ErrUnexpectedEOF"], apart := false, laid := [("io.ErrShortBuffer", laid_io_ErrShortBuffer), ("io.EOF", laid_io_EOF), ("io.ErrUnexpectedEOF", laid_io_ErrUnexpectedEOF)] }
def FnPeSymbolsSaid : Prop := fnPeSymbolsRow.holds Tryd.pinned (OpenSpec.ofChange fnPeSymbolsSpec)

/-- ITS FALSE NEIGHBOUR: 'it returns false'. Refute it at one input. -/
def fnPeSymbolsWrong : ChangeSpec := { name := "fnPeSymbols", fn := fun _ => fun
  | [d1, d2, d3] => { results := [.lit (.bool false)], args := [d1, d2, d3] }
  | _ => none }
def FnPeSymbolsWrongFalsely : Prop := fnPeSymbolsRow.holds Tryd.pinned (OpenSpec.ofChange fnPeSymbolsWrong)

/-- 'laws.FnPeTexts': WHATEVER THE INPUT: true; the input reads as it did. -/
def fnPeTextsSpec : ChangeSpec := { name := "fnPeTexts", fn := fun _ => fun
  | [d1, d2, d3] => { results := [.lit (.bool true)], args := [d1, d2, d3] }
  | _ => none }
def fnPeTextsRow : OpenClaim := { program := "ythnlimhpnonnmaadoorrrr", sum := "448c4769e9568e51b9a1f34a79cb0866bd652258e4c7e9642ea8a89b42a99048", func := "loop.example/pub-g03430/laws.FnPeTexts", spec := "fnPeTexts", unfollowed := true, recurses := true, named := ["io.ErrShortBuffer", "io.EOF", "io.ErrUnexpectedEOF"], apart := false, laid := [("io.ErrShortBuffer", laid_io_ErrShortBuffer), ("io.EOF", laid_io_EOF), ("io.ErrUnexpectedEOF", laid_io_ErrUnexpectedEOF)] }
def FnPeTextsSaid : Prop := fnPeTextsRow.holds Tryd.pinned (OpenSpec.ofChange fnPeTextsSpec)

/-- ITS FALSE NEIGHBOUR: 'it returns false'. Refute it at one input. -/
def fnPeTextsWrong : ChangeSpec := { name := "fnPeTexts", fn := fun _ => fun
  | [d1, d2, d3] => { results := [.lit (.bool false)], args := [d1, d2, d3] }
  | _ => none }
def FnPeTextsWrongFalsely : Prop := fnPeTextsRow.holds Tryd.pinned (OpenSpec.ofChange fnPeTextsWrong)

/- THE SECOND FORM. 'bulk': how many values and letters a reading holds, each counted each time it is reached (what is shared counts as often as it is met; a slice's spare places count too). A statement '..UptoSaid' is the law's where the arguments, and the package variables that the reading takes, are together of bulk at most 1048576: NARROWER than '..Said'. Prove '..Said' where nothing that the law and all that it calls make is longer than what came in: it says more and counts as full. Else prove '..UptoSaid'. A law counts once. -/
mutual
def uptoBulk {H : Type} : DataW H → Nat
  | .lit (.string bytes) => bytes.length + 1
  | .lit _ => 1
  | .nil => 1
  | .ptr d => uptoBulk d + 1
  | .slice elems spare => uptoBulkAll elems + uptoBulkAll spare + 1
  | .agg parts => uptoBulkAll parts + 1
  | .iface _ d => uptoBulk d + 1
  | .map entries => uptoBulkEntries entries + 1
  | .held _ => 1
def uptoBulkAll {H : Type} : List (DataW H) → Nat
  | [] => 0
  | d :: r => uptoBulk d + uptoBulkAll r
def uptoBulkEntries {H : Type} : List (Lit × DataW H) → Nat
  | [] => 0
  | x :: r => uptoBulkEntry x + uptoBulkEntries r
def uptoBulkEntry {H : Type} : Lit × DataW H → Nat
  | (.string bytes, d) => bytes.length + uptoBulk d + 1
  | (_, d) => uptoBulk d + 1
 end
def uptoSmall : (H : Type) → List (DataW H) → Bool := fun _ ds => decide (uptoBulkAll ds ≤ 1048576)
def OpenSpec.upto (s : _root_.Go.ChangeSpec) : _root_.Go.OpenSpec := { _root_.Go.OpenSpec.ofChange s with cond := some uptoSmall }

/-- 'laws.FnPeHeader', WHERE WHAT IT READS IS OF BULK AT MOST 1048576: true; the input reads as it did. -/
def fnPeHeaderUptoRow : OpenClaim := { program := "ythnlimhpnonnmaadoorrrr", sum := "448c4769e9568e51b9a1f34a79cb0866bd652258e4c7e9642ea8a89b42a99048", func := "loop.example/pub-g03430/laws.FnPeHeader", spec := "fnPeHeader", unfollowed := true, recurses := true, named := ["io.ErrShortBuffer", "io.EOF", "io.ErrUnexpectedEOF"], apart := false, laid := [("io.ErrShortBuffer", laid_io_ErrShortBuffer), ("io.EOF", laid_io_EOF), ("io.ErrUnexpectedEOF", laid_io_ErrUnexpectedEOF)], narrowed := true }
def FnPeHeaderUptoSaid : Prop := fnPeHeaderUptoRow.holds Tryd.pinned (OpenSpec.upto fnPeHeaderSpec)

/-- 'laws.FnPeCoff', WHERE WHAT IT READS IS OF BULK AT MOST 1048576: true; the input reads as it did. -/
def fnPeCoffUptoRow : OpenClaim := { program := "ythnlimhpnonnmaadoorrrr", sum := "448c4769e9568e51b9a1f34a79cb0866bd652258e4c7e9642ea8a89b42a99048", func := "loop.example/pub-g03430/laws.FnPeCoff", spec := "fnPeCoff", unfollowed := true, recurses := true, named := ["io.ErrShortBuffer", "io.EOF", "io.ErrUnexpectedEOF"], apart := false, laid := [("io.ErrShortBuffer", laid_io_ErrShortBuffer), ("io.EOF", laid_io_EOF), ("io.ErrUnexpectedEOF", laid_io_ErrUnexpectedEOF)], narrowed := true }
def FnPeCoffUptoSaid : Prop := fnPeCoffUptoRow.holds Tryd.pinned (OpenSpec.upto fnPeCoffSpec)

/-- 'laws.FnPeSection', WHERE WHAT IT READS IS OF BULK AT MOST 1048576: true; the input reads as it did. -/
def fnPeSectionUptoRow : OpenClaim := { program := "ythnlimhpnonnmaadoorrrr", sum := "448c4769e9568e51b9a1f34a79cb0866bd652258e4c7e9642ea8a89b42a99048", func := "loop.example/pub-g03430/laws.FnPeSection", spec := "fnPeSection", unfollowed := true, recurses := true, named := ["io.ErrShortBuffer", "io.EOF", "io.ErrUnexpectedEOF"], apart := false, laid := [("io.ErrShortBuffer", laid_io_ErrShortBuffer), ("io.EOF", laid_io_EOF), ("io.ErrUnexpectedEOF", laid_io_ErrUnexpectedEOF)], narrowed := true }
def FnPeSectionUptoSaid : Prop := fnPeSectionUptoRow.holds Tryd.pinned (OpenSpec.upto fnPeSectionSpec)

/-- 'laws.FnPeAux', WHERE WHAT IT READS IS OF BULK AT MOST 1048576: true; the input reads as it did. -/
def fnPeAuxUptoRow : OpenClaim := { program := "ythnlimhpnonnmaadoorrrr", sum := "448c4769e9568e51b9a1f34a79cb0866bd652258e4c7e9642ea8a89b42a99048", func := "loop.example/pub-g03430/laws.FnPeAux", spec := "fnPeAux", unfollowed := true, recurses := true, named := ["io.ErrShortBuffer", "io.EOF", "io.ErrUnexpectedEOF"], apart := false, laid := [("io.ErrShortBuffer", laid_io_ErrShortBuffer), ("io.EOF", laid_io_EOF), ("io.ErrUnexpectedEOF", laid_io_ErrUnexpectedEOF)], narrowed := true }
def FnPeAuxUptoSaid : Prop := fnPeAuxUptoRow.holds Tryd.pinned (OpenSpec.upto fnPeAuxSpec)

/-- 'laws.FnPeRelocs', WHERE WHAT IT READS IS OF BULK AT MOST 1048576: true; the input reads as it did. -/
def fnPeRelocsUptoRow : OpenClaim := { program := "ythnlimhpnonnmaadoorrrr", sum := "448c4769e9568e51b9a1f34a79cb0866bd652258e4c7e9642ea8a89b42a99048", func := "loop.example/pub-g03430/laws.FnPeRelocs", spec := "fnPeRelocs", unfollowed := true, recurses := true, named := ["io.ErrShortBuffer", "io.EOF", "io.ErrUnexpectedEOF"], apart := false, laid := [("io.ErrShortBuffer", laid_io_ErrShortBuffer), ("io.EOF", laid_io_EOF), ("io.ErrUnexpectedEOF", laid_io_ErrUnexpectedEOF)], narrowed := true }
def FnPeRelocsUptoSaid : Prop := fnPeRelocsUptoRow.holds Tryd.pinned (OpenSpec.upto fnPeRelocsSpec)

/-- 'laws.FnPeSymbols', WHERE WHAT IT READS IS OF BULK AT MOST 1048576: true; the input reads as it did. -/
def fnPeSymbolsUptoRow : OpenClaim := { program := "ythnlimhpnonnmaadoorrrr", sum := "448c4769e9568e51b9a1f34a79cb0866bd652258e4c7e9642ea8a89b42a99048", func := "loop.example/pub-g03430/laws.FnPeSymbols", spec := "fnPeSymbols", unfollowed := true, recurses := true, named := ["io.ErrShortBuffer", "io.EOF", "io.ErrUnexpectedEOF"], apart := false, laid := [("io.ErrShortBuffer", laid_io_ErrShortBuffer), ("io.EOF", laid_io_EOF), ("io.ErrUnexpectedEOF", laid_io_ErrUnexpectedEOF)], narrowed := true }
def FnPeSymbolsUptoSaid : Prop := fnPeSymbolsUptoRow.holds Tryd.pinned (OpenSpec.upto fnPeSymbolsSpec)

/-- 'laws.FnPeTexts', WHERE WHAT IT READS IS OF BULK AT MOST 1048576: true; the input reads as it did. -/
def fnPeTextsUptoRow : OpenClaim := { program := "ythnlimhpnonnmaadoorrrr", sum := "448c4769e9568e51b9a1f34a79cb0866bd652258e4c7e9642ea8a89b42a99048", func := "loop.example/pub-g03430/laws.FnPeTexts", spec := "fnPeTexts", unfollowed := true, recurses := true, named := ["io.ErrShortBuffer", "io.EOF", "io.ErrUnexpectedEOF"], apart := false, laid := [("io.ErrShortBuffer", laid_io_ErrShortBuffer), ("io.EOF", laid_io_EOF), ("io.ErrUnexpectedEOF", laid_io_ErrUnexpectedEOF)], narrowed := true }
def FnPeTextsUptoSaid : Prop := fnPeTextsUptoRow.holds Tryd.pinned (OpenSpec.upto fnPeTextsSpec)

end Rows
end Go.Proofs.YthnlimhpnonnmaaDoorRRR
