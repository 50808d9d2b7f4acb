/-
  NARROWER THAN 'FOR EVERY INPUT', by the rows' own cells (each row's printed sentence says how): FnMachoRpathCmd: laid · FnMachoFatArch: laid · FnMachoDylibCmd: laid · FnMachoSymtabCmd: laid · FnMachoHeader: laid · FnMachoDysymtabCmd: laid · FnMachoNlist: laid · FnMachoSegment: laid · FnMachoSection: laid.
  DERIVED. THE GIVEN ROWS OF THIS SEAT. 9 by the template 'for every input the law returns true; each argument reads behind the call as it read before'; 0 by the template 'total and deterministic' (their statements: YtcdknbclhdllkaaDoorTotals.lean).
  GIVEN WITH THE SEED: the statements are not yours to turn. If you find one false, say at which input.
  Laid BY PROGRAM, IN A SANDBOX (cutbox-rows.mjs): the forced cells as the released guide's own fill.sh prints them over the translation 94db263f4718c3b5… (all of the seat's roots in one cut). By AI agents, Wed Nov 11 2026. No macro, syntax, notation, axiom, sorry.
-/
import Derived.Test.YtcdknbclhdllkaaDoorChecked
import GoSem.Claim
import GoSem.ClaimJoined
import GoSem.ClaimMapViews
import Derived.JoinedTies
import Derived.KernelRfl
namespace Go.Proofs.YtcdknbclhdllkaaDoor
/- THE CELL 'sum', in the pinned program and in every row, IS THE sha256 OF THE DUMP (.gsa) THAT YtcdknbclhdllkaaDoorProg.lean LOADS. Nothing in Lean hashes anything: it is a label: what it is worth is what the hold of that sum in a sandbox is worth. -/
noncomputable def Tryd.pinned : Pinned := { name := "ytcdknbclhdllkaadoor", sum := "94db263f4718c3b5ac302e07bbe87e883bbc8fbb5d6d88a83e3c48817ad3c1de", checked := Tryd.checked }
namespace Rows
def none {H : Type} : Left H := { results := [], args := [] }

/- WHAT THE LISTED PACKAGE-LEVEL VARIABLES READ AS WHEN THE CALL BEGINS. Each datum BY PROGRAM (the guide's laid-datum.mjs) off the statement by which the dump's own 'gosem.cut.vars' lays the variable. In a bare row this is a premise. The card (YtcdknbclhdllkaaDoorCards.lean) ties it to the program's text. -/
def laid_io_ErrShortBuffer {H : Type} : DataW H := .iface "*errors.errorString" (.ptr (.agg [.lit (.string [115, 104, 111, 114, 116, 32, 98, 117, 102, 102, 101, 114])]))
def laid_io_EOF {H : Type} : DataW H := .iface "*errors.errorString" (.ptr (.agg [.lit (.string [69, 79, 70])]))
def laid_io_ErrUnexpectedEOF {H : Type} : DataW H := .iface "*errors.errorString" (.ptr (.agg [.lit (.string [117, 110, 101, 120, 112, 101, 99, 116, 101, 100, 32, 69, 79, 70])]))

/-- 'laws.FnMachoRpathCmd': WHATEVER THE INPUT: true; the input reads as it did. -/
def fnMachoRpathCmdSpec : ChangeSpec := { name := "fnMachoRpathCmd", fn := fun _ => fun
  | [d1, d2] => { results := [.lit (.bool true)], args := [d1, d2] }
  | _ => none }
def fnMachoRpathCmdRow : OpenClaim := { program := "ytcdknbclhdllkaadoor", sum := "94db263f4718c3b5ac302e07bbe87e883bbc8fbb5d6d88a83e3c48817ad3c1de", func := "loop.example/pub-g03430/laws.FnMachoRpathCmd", spec := "fnMachoRpathCmd", unfollowed := true, recurses := true, named := ["io.ErrShortBuffer", "io.EOF", "io.ErrUnexpectedEOF"], apart := false, laid := [("io.ErrShortBuffer", laid_io_ErrShortBuffer), ("io.EOF", laid_io_EOF), ("io.ErrUnexpectedEOF", laid_io_ErrUnexpectedEOF)] }
def FnMachoRpathCmdSaid : Prop := fnMachoRpathCmdRow.holds Tryd.pinned (OpenSpec.ofChange fnMachoRpathCmdSpec)

/-- ITS FALSE NEIGHBOUR: 'it returns false'. Refute it at one input. -/
def fnMachoRpathCmdWrong : ChangeSpec := { name := "fnMachoRpathCmd", fn := fun _ => fun
  | [d1, d2] => { results := [.lit (.bool false)], args := [d1, d2] }
  | _ => none }
def FnMachoRpathCmdWrongFalsely : Prop := fnMachoRpathCmdRow.holds Tryd.pinned (OpenSpec.ofChange fnMachoRpathCmdWrong)

/-- 'laws.FnMachoFatArch': WHATEVER THE INPUT: true; the input reads as it did. -/
def fnMachoFatArchSpec : ChangeSpec := { name := "fnMachoFatArch", fn := fun _ => fun
  | [d1, d2] => { results := [.lit (.bool true)], args := [d1, d2] }
  | _ => none }
def fnMachoFatArchRow : OpenClaim := { program := "ytcdknbclhdllkaadoor", sum := "94db263f4718c3b5ac302e07bbe87e883bbc8fbb5d6d88a83e3c48817ad3c1de", func := "loop.example/pub-g03430/laws.FnMachoFatArch", spec := "fnMachoFatArch", unfollowed := true, recurses := true, named := ["io.ErrShortBuffer", "io.EOF", "io.ErrUnexpectedEOF"], apart := false, laid := [("io.ErrShortBuffer", laid_io_ErrShortBuffer), ("io.EOF", laid_io_EOF), ("io.ErrUnexpectedEOF", laid_io_ErrUnexpectedEOF)] }
def FnMachoFatArchSaid : Prop := fnMachoFatArchRow.holds Tryd.pinned (OpenSpec.ofChange fnMachoFatArchSpec)

/-- ITS FALSE NEIGHBOUR: 'it returns false'. Refute it at one input. -/
def fnMachoFatArchWrong : ChangeSpec := { name := "fnMachoFatArch", fn := fun _ => fun
  | [d1, d2] => { results := [.lit (.bool false)], args := [d1, d2] }
  | _ => none }
def FnMachoFatArchWrongFalsely : Prop := fnMachoFatArchRow.holds Tryd.pinned (OpenSpec.ofChange fnMachoFatArchWrong)

/-- 'laws.FnMachoDylibCmd': WHATEVER THE INPUT: true; the input reads as it did. -/
def fnMachoDylibCmdSpec : ChangeSpec := { name := "fnMachoDylibCmd", fn := fun _ => fun
  | [d1, d2] => { results := [.lit (.bool true)], args := [d1, d2] }
  | _ => none }
def fnMachoDylibCmdRow : OpenClaim := { program := "ytcdknbclhdllkaadoor", sum := "94db263f4718c3b5ac302e07bbe87e883bbc8fbb5d6d88a83e3c48817ad3c1de", func := "loop.example/pub-g03430/laws.FnMachoDylibCmd", spec := "fnMachoDylibCmd", unfollowed := true, recurses := true, named := ["io.ErrShortBuffer", "io.EOF", "io.ErrUnexpectedEOF"], apart := false, laid := [("io.ErrShortBuffer", laid_io_ErrShortBuffer), ("io.EOF", laid_io_EOF), ("io.ErrUnexpectedEOF", laid_io_ErrUnexpectedEOF)] }
def FnMachoDylibCmdSaid : Prop := fnMachoDylibCmdRow.holds Tryd.pinned (OpenSpec.ofChange fnMachoDylibCmdSpec)

/-- ITS FALSE NEIGHBOUR: 'it returns false'. Refute it at one input. -/
def fnMachoDylibCmdWrong : ChangeSpec := { name := "fnMachoDylibCmd", fn := fun _ => fun
  | [d1, d2] => { results := [.lit (.bool false)], args := [d1, d2] }
  | _ => none }
def FnMachoDylibCmdWrongFalsely : Prop := fnMachoDylibCmdRow.holds Tryd.pinned (OpenSpec.ofChange fnMachoDylibCmdWrong)

/-- 'laws.FnMachoSymtabCmd': WHATEVER THE INPUT: true; the input reads as it did. -/
def fnMachoSymtabCmdSpec : ChangeSpec := { name := "fnMachoSymtabCmd", fn := fun _ => fun
  | [d1, d2] => { results := [.lit (.bool true)], args := [d1, d2] }
  | _ => none }
def fnMachoSymtabCmdRow : OpenClaim := { program := "ytcdknbclhdllkaadoor", sum := "94db263f4718c3b5ac302e07bbe87e883bbc8fbb5d6d88a83e3c48817ad3c1de", func := "loop.example/pub-g03430/laws.FnMachoSymtabCmd", spec := "fnMachoSymtabCmd", unfollowed := true, recurses := true, named := ["io.ErrShortBuffer", "io.EOF", "io.ErrUnexpectedEOF"], apart := false, laid := [("io.ErrShortBuffer", laid_io_ErrShortBuffer), ("io.EOF", laid_io_EOF), ("io.ErrUnexpectedEOF", laid_io_ErrUnexpectedEOF)] }
def FnMachoSymtabCmdSaid : Prop := fnMachoSymtabCmdRow.holds Tryd.pinned (OpenSpec.ofChange fnMachoSymtabCmdSpec)

/-- ITS FALSE NEIGHBOUR: 'it returns false'. Refute it at one input. -/
def fnMachoSymtabCmdWrong : ChangeSpec := { name := "fnMachoSymtabCmd", fn := fun _ => fun
  | [d1, d2] => { results := [.lit (.bool false)], args := [d1, d2] }
  | _ => none }
def FnMachoSymtabCmdWrongFalsely : Prop := fnMachoSymtabCmdRow.holds Tryd.pinned (OpenSpec.ofChange fnMachoSymtabCmdWrong)

/-- 'laws.FnMachoHeader': WHATEVER THE INPUT: true; the input reads as it did. -/
def fnMachoHeaderSpec : ChangeSpec := { name := "fnMachoHeader", fn := fun _ => fun
  | [d1, d2] => { results := [.lit (.bool true)], args := [d1, d2] }
  | _ => none }
def fnMachoHeaderRow : OpenClaim := { program := "ytcdknbclhdllkaadoor", sum := "94db263f4718c3b5ac302e07bbe87e883bbc8fbb5d6d88a83e3c48817ad3c1de", func := "loop.example/pub-g03430/laws.FnMachoHeader", spec := "fnMachoHeader", unfollowed := true, recurses := true, named := ["io.ErrShortBuffer", "io.EOF", "io.ErrUnexpectedEOF"], apart := false, laid := [("io.ErrShortBuffer", laid_io_ErrShortBuffer), ("io.EOF", laid_io_EOF), ("io.ErrUnexpectedEOF", laid_io_ErrUnexpectedEOF)] }
def FnMachoHeaderSaid : Prop := fnMachoHeaderRow.holds Tryd.pinned (OpenSpec.ofChange fnMachoHeaderSpec)

/-- ITS FALSE NEIGHBOUR: 'it returns false'. Refute it at one input. -/
def fnMachoHeaderWrong : ChangeSpec := { name := "fnMachoHeader", fn := fun _ => fun
  | [d1, d2] => { results := [.lit (.bool false)], args := [d1, d2] }
  | _ => none }
def FnMachoHeaderWrongFalsely : Prop := fnMachoHeaderRow.holds Tryd.pinned (OpenSpec.ofChange fnMachoHeaderWrong)

/-- 'laws.FnMachoDysymtabCmd': WHATEVER THE INPUT: true; the input reads as it did. -/
def fnMachoDysymtabCmdSpec : ChangeSpec := { name := "fnMachoDysymtabCmd", fn := fun _ => fun
  | [d1, d2] => { results := [.lit (.bool true)], args := [d1, d2] }
  | _ => none }
def fnMachoDysymtabCmdRow : OpenClaim := { program := "ytcdknbclhdllkaadoor", sum := "94db263f4718c3b5ac302e07bbe87e883bbc8fbb5d6d88a83e3c48817ad3c1de", func := "loop.example/pub-g03430/laws.FnMachoDysymtabCmd", spec := "fnMachoDysymtabCmd", unfollowed := true, recurses := true, named := ["io.ErrShortBuffer", "io.EOF", "io.ErrUnexpectedEOF"], apart := false, laid := [("io.ErrShortBuffer", laid_io_ErrShortBuffer), ("io.EOF", laid_io_EOF), ("io.ErrUnexpectedEOF", laid_io_ErrUnexpectedEOF)] }
def FnMachoDysymtabCmdSaid : Prop := fnMachoDysymtabCmdRow.holds Tryd.pinned (OpenSpec.ofChange fnMachoDysymtabCmdSpec)

/-- ITS FALSE NEIGHBOUR: 'it returns false'. Refute it at one input. -/
def fnMachoDysymtabCmdWrong : ChangeSpec := { name := "fnMachoDysymtabCmd", fn := fun _ => fun
  | [d1, d2] => { results := [.lit (.bool false)], args := [d1, d2] }
  | _ => none }
def FnMachoDysymtabCmdWrongFalsely : Prop := fnMachoDysymtabCmdRow.holds Tryd.pinned (OpenSpec.ofChange fnMachoDysymtabCmdWrong)

/-- 'laws.FnMachoNlist': WHATEVER THE INPUT: true; the input reads as it did. -/
def fnMachoNlistSpec : ChangeSpec := { name := "fnMachoNlist", fn := fun _ => fun
  | [d1, d2, d3] => { results := [.lit (.bool true)], args := [d1, d2, d3] }
  | _ => none }
def fnMachoNlistRow : OpenClaim := { program := "ytcdknbclhdllkaadoor", sum := "94db263f4718c3b5ac302e07bbe87e883bbc8fbb5d6d88a83e3c48817ad3c1de", func := "loop.example/pub-g03430/laws.FnMachoNlist", spec := "fnMachoNlist", unfollowed := true, recurses := true, named := ["io.ErrShortBuffer", "io.EOF", "io.ErrUnexpectedEOF"], apart := false, laid := [("io.ErrShortBuffer", laid_io_ErrShortBuffer), ("io.EOF", laid_io_EOF), ("io.ErrUnexpectedEOF", laid_io_ErrUnexpectedEOF)] }
def FnMachoNlistSaid : Prop := fnMachoNlistRow.holds Tryd.pinned (OpenSpec.ofChange fnMachoNlistSpec)

/-- ITS FALSE NEIGHBOUR: 'it returns false'. Refute it at one input. -/
def fnMachoNlistWrong : ChangeSpec := { name := "fnMachoNlist", fn := fun _ => fun
  | [d1, d2, d3] => { results := [.lit (.bool false)], args := [d1, d2, d3] }
  | _ => none }
def FnMachoNlistWrongFalsely : Prop := fnMachoNlistRow.holds Tryd.pinned (OpenSpec.ofChange fnMachoNlistWrong)

/-- 'laws.FnMachoSegment': WHATEVER THE INPUT: true; the input reads as it did. -/
def fnMachoSegmentSpec : ChangeSpec := { name := "fnMachoSegment", fn := fun _ => fun
  | [d1, d2, d3] => { results := [.lit (.bool true)], args := [d1, d2, d3] }
  | _ => none }
def fnMachoSegmentRow : OpenClaim := { program := "ytcdknbclhdllkaadoor", sum := "94db263f4718c3b5ac302e07bbe87e883bbc8fbb5d6d88a83e3c48817ad3c1de", func := "loop.example/pub-g03430/laws.FnMachoSegment", spec := "fnMachoSegment", unfollowed := true, recurses := true, named := ["io.ErrShortBuffer", "io.EOF", "io.ErrUnexpectedEOF"], apart := false, laid := [("io.ErrShortBuffer", laid_io_ErrShortBuffer), ("io.EOF", laid_io_EOF), ("io.ErrUnexpectedEOF", laid_io_ErrUnexpectedEOF)] }
def FnMachoSegmentSaid : Prop := fnMachoSegmentRow.holds Tryd.pinned (OpenSpec.ofChange fnMachoSegmentSpec)

/-- ITS FALSE NEIGHBOUR: 'it returns false'. Refute it at one input. -/
def fnMachoSegmentWrong : ChangeSpec := { name := "fnMachoSegment", fn := fun _ => fun
  | [d1, d2, d3] => { results := [.lit (.bool false)], args := [d1, d2, d3] }
  | _ => none }
def FnMachoSegmentWrongFalsely : Prop := fnMachoSegmentRow.holds Tryd.pinned (OpenSpec.ofChange fnMachoSegmentWrong)

/-- 'laws.FnMachoSection': WHATEVER THE INPUT: true; the input reads as it did. -/
def fnMachoSectionSpec : ChangeSpec := { name := "fnMachoSection", fn := fun _ => fun
  | [d1, d2, d3] => { results := [.lit (.bool true)], args := [d1, d2, d3] }
  | _ => none }
def fnMachoSectionRow : OpenClaim := { program := "ytcdknbclhdllkaadoor", sum := "94db263f4718c3b5ac302e07bbe87e883bbc8fbb5d6d88a83e3c48817ad3c1de", func := "loop.example/pub-g03430/laws.FnMachoSection", spec := "fnMachoSection", unfollowed := true, recurses := true, named := ["io.ErrShortBuffer", "io.EOF", "io.ErrUnexpectedEOF"], apart := false, laid := [("io.ErrShortBuffer", laid_io_ErrShortBuffer), ("io.EOF", laid_io_EOF), ("io.ErrUnexpectedEOF", laid_io_ErrUnexpectedEOF)] }
def FnMachoSectionSaid : Prop := fnMachoSectionRow.holds Tryd.pinned (OpenSpec.ofChange fnMachoSectionSpec)

/-- ITS FALSE NEIGHBOUR: 'it returns false'. Refute it at one input. -/
def fnMachoSectionWrong : ChangeSpec := { name := "fnMachoSection", fn := fun _ => fun
  | [d1, d2, d3] => { results := [.lit (.bool false)], args := [d1, d2, d3] }
  | _ => none }
def FnMachoSectionWrongFalsely : Prop := fnMachoSectionRow.holds Tryd.pinned (OpenSpec.ofChange fnMachoSectionWrong)

/- THE SECOND FORM. 'bulk': how many values and letters a reading holds, each counted each time it is reached (what is shared counts as often as it is met; a slice's spare places count too). A statement '..UptoSaid' is the law's where the arguments, and the package variables that the reading takes, are together of bulk at most 1048576: NARROWER than '..Said'. Prove '..Said' where nothing that the law and all that it calls make is longer than what came in: it says more and counts as full. Else prove '..UptoSaid'. A law counts once. -/
mutual
def uptoBulk {H : Type} : DataW H → Nat
  | .lit (.string bytes) => bytes.length + 1
  | .lit _ => 1
  | .nil => 1
  | .ptr d => uptoBulk d + 1
  | .slice elems spare => uptoBulkAll elems + uptoBulkAll spare + 1
  | .agg parts => uptoBulkAll parts + 1
  | .iface _ d => uptoBulk d + 1
  | .map entries => uptoBulkEntries entries + 1
  | .held _ => 1
def uptoBulkAll {H : Type} : List (DataW H) → Nat
  | [] => 0
  | d :: r => uptoBulk d + uptoBulkAll r
def uptoBulkEntries {H : Type} : List (Lit × DataW H) → Nat
  | [] => 0
  | x :: r => uptoBulkEntry x + uptoBulkEntries r
def uptoBulkEntry {H : Type} : Lit × DataW H → Nat
  | (.string bytes, d) => bytes.length + uptoBulk d + 1
  | (_, d) => uptoBulk d + 1
 end
def uptoSmall : (H : Type) → List (DataW H) → Bool := fun _ ds => decide (uptoBulkAll ds ≤ 1048576)
def OpenSpec.upto (s : _root_.Go.ChangeSpec) : _root_.Go.OpenSpec := { _root_.Go.OpenSpec.ofChange s with cond := some uptoSmall }

/-- 'laws.FnMachoRpathCmd', WHERE WHAT IT READS IS OF BULK AT MOST 1048576: true; the input reads as it did. -/
def fnMachoRpathCmdUptoRow : OpenClaim := { program := "ytcdknbclhdllkaadoor", sum := "94db263f4718c3b5ac302e07bbe87e883bbc8fbb5d6d88a83e3c48817ad3c1de", func := "loop.example/pub-g03430/laws.FnMachoRpathCmd", spec := "fnMachoRpathCmd", unfollowed := true, recurses := true, named := ["io.ErrShortBuffer", "io.EOF", "io.ErrUnexpectedEOF"], apart := false, laid := [("io.ErrShortBuffer", laid_io_ErrShortBuffer), ("io.EOF", laid_io_EOF), ("io.ErrUnexpectedEOF", laid_io_ErrUnexpectedEOF)], narrowed := true }
def FnMachoRpathCmdUptoSaid : Prop := fnMachoRpathCmdUptoRow.holds Tryd.pinned (OpenSpec.upto fnMachoRpathCmdSpec)

/-- 'laws.FnMachoFatArch', WHERE WHAT IT READS IS OF BULK AT MOST 1048576: true; the input reads as it did. -/
def fnMachoFatArchUptoRow : OpenClaim := { program := "ytcdknbclhdllkaadoor", sum := "94db263f4718c3b5ac302e07bbe87e883bbc8fbb5d6d88a83e3c48817ad3c1de", func := "loop.example/pub-g03430/laws.FnMachoFatArch", spec := "fnMachoFatArch", unfollowed := true, recurses := true, named := ["io.ErrShortBuffer", "io.EOF", "io.ErrUnexpectedEOF"], apart := false, laid := [("io.ErrShortBuffer", laid_io_ErrShortBuffer), ("io.EOF", laid_io_EOF), ("io.ErrUnexpectedEOF", laid_io_ErrUnexpectedEOF)], narrowed := true }
def FnMachoFatArchUptoSaid : Prop := fnMachoFatArchUptoRow.holds Tryd.pinned (OpenSpec.upto fnMachoFatArchSpec)

/-- 'laws.FnMachoDylibCmd', WHERE WHAT IT READS IS OF BULK AT MOST 1048576: true; the input reads as it did. -/
def fnMachoDylibCmdUptoRow : OpenClaim := { program := "ytcdknbclhdllkaadoor", sum := "94db263f4718c3b5ac302e07bbe87e883bbc8fbb5d6d88a83e3c48817ad3c1de", func := "loop.example/pub-g03430/laws.FnMachoDylibCmd", spec := "fnMachoDylibCmd", unfollowed := true, recurses := true, named := ["io.ErrShortBuffer", "io.EOF", "io.ErrUnexpectedEOF"], apart := false, laid := [("io.ErrShortBuffer", laid_io_ErrShortBuffer), ("io.EOF", laid_io_EOF), ("io.ErrUnexpectedEOF", laid_io_ErrUnexpectedEOF)], narrowed := true }
def FnMachoDylibCmdUptoSaid : Prop := fnMachoDylibCmdUptoRow.holds Tryd.pinned (OpenSpec.upto fnMachoDylibCmdSpec)

/-- 'laws.FnMachoSymtabCmd', WHERE WHAT IT READS IS OF BULK AT MOST 1048576: true; the input reads as it did. -/
def fnMachoSymtabCmdUptoRow : OpenClaim := { program := "ytcdknbclhdllkaadoor", sum := "94db263f4718c3b5ac302e07bbe87e883bbc8fbb5d6d88a83e3c48817ad3c1de", func := "loop.example/pub-g03430/laws.FnMachoSymtabCmd", spec := "fnMachoSymtabCmd", unfollowed := true, recurses := true, named := ["io.ErrShortBuffer", "io.EOF", "io.ErrUnexpectedEOF"], apart := false, laid := [("io.ErrShortBuffer", laid_io_ErrShortBuffer), ("io.EOF", laid_io_EOF), ("io.ErrUnexpectedEOF", laid_io_ErrUnexpectedEOF)], narrowed := true }
def FnMachoSymtabCmdUptoSaid : Prop := fnMachoSymtabCmdUptoRow.holds Tryd.pinned (OpenSpec.upto fnMachoSymtabCmdSpec)

/-- 'laws.FnMachoHeader', WHERE WHAT IT READS IS OF BULK AT MOST 1048576: true; the input reads as it did. -/
def fnMachoHeaderUptoRow : OpenClaim := { program := "ytcdknbclhdllkaadoor", sum := "94db263f4718c3b5ac302e07bbe87e883bbc8fbb5d6d88a83e3c48817ad3c1de", func := "loop.example/pub-g03430/laws.FnMachoHeader", spec := "fnMachoHeader", unfollowed := true, recurses := true, named := ["io.ErrShortBuffer", "io.EOF", "io.ErrUnexpectedEOF"], apart := false, laid := [("io.ErrShortBuffer", laid_io_ErrShortBuffer), ("io.EOF", laid_io_EOF), ("io.ErrUnexpectedEOF", laid_io_ErrUnexpectedEOF)], narrowed := true }
def FnMachoHeaderUptoSaid : Prop := fnMachoHeaderUptoRow.holds Tryd.pinned (OpenSpec.upto fnMachoHeaderSpec)

/-- 'laws.FnMachoDysymtabCmd', WHERE WHAT IT READS IS OF BULK AT MOST 1048576: true; the input reads as it did. -/
def fnMachoDysymtabCmdUptoRow : OpenClaim := { program := "ytcdknbclhdllkaadoor", sum := "94db263f4718c3b5ac302e07bbe87e883bbc8fbb5d6d88a83e3c48817ad3c1de", func := "loop.example/pub-g03430/laws.FnMachoDysymtabCmd", spec := "fnMachoDysymtabCmd", unfollowed := true, recurses := true, named := ["io.ErrShortBuffer", "io.EOF", "io.ErrUnexpectedEOF"], apart := false, laid := [("io.ErrShortBuffer", laid_io_ErrShortBuffer), ("io.EOF", laid_io_EOF), ("io.ErrUnexpectedEOF", laid_io_ErrUnexpectedEOF)], narrowed := true }
def FnMachoDysymtabCmdUptoSaid : Prop := fnMachoDysymtabCmdUptoRow.holds Tryd.pinned (OpenSpec.upto fnMachoDysymtabCmdSpec)

/-- 'laws.FnMachoNlist', WHERE WHAT IT READS IS OF BULK AT MOST 1048576: true; the input reads as it did. -/
def fnMachoNlistUptoRow : OpenClaim := { program := "ytcdknbclhdllkaadoor", sum := "94db263f4718c3b5ac302e07bbe87e883bbc8fbb5d6d88a83e3c48817ad3c1de", func := "loop.example/pub-g03430/laws.FnMachoNlist", spec := "fnMachoNlist", unfollowed := true, recurses := true, named := ["io.ErrShortBuffer", "io.EOF", "io.ErrUnexpectedEOF"], apart := false, laid := [("io.ErrShortBuffer", laid_io_ErrShortBuffer), ("io.EOF", laid_io_EOF), ("io.ErrUnexpectedEOF", laid_io_ErrUnexpectedEOF)], narrowed := true }
def FnMachoNlistUptoSaid : Prop := fnMachoNlistUptoRow.holds Tryd.pinned (OpenSpec.upto fnMachoNlistSpec)

/-- 'laws.FnMachoSegment', WHERE WHAT IT READS IS OF BULK AT MOST 1048576: true; the input reads as it did. -/
def fnMachoSegmentUptoRow : OpenClaim := { program := "ytcdknbclhdllkaadoor", sum := "94db263f4718c3b5ac302e07bbe87e883bbc8fbb5d6d88a83e3c48817ad3c1de", func := "loop.example/pub-g03430/laws.FnMachoSegment", spec := "fnMachoSegment", unfollowed := true, recurses := true, named := ["io.ErrShortBuffer", "io.EOF", "io.ErrUnexpectedEOF"], apart := false, laid := [("io.ErrShortBuffer", laid_io_ErrShortBuffer), ("io.EOF", laid_io_EOF), ("io.ErrUnexpectedEOF", laid_io_ErrUnexpectedEOF)], narrowed := true }
def FnMachoSegmentUptoSaid : Prop := fnMachoSegmentUptoRow.holds Tryd.pinned (OpenSpec.upto fnMachoSegmentSpec)

/-- 'laws.FnMachoSection', WHERE WHAT IT READS IS OF BULK AT MOST 1048576: true; the input reads as it did. -/
def fnMachoSectionUptoRow : OpenClaim := { program := "ytcdknbclhdllkaadoor", sum := "94db263f4718c3b5ac302e07bbe87e883bbc8fbb5d6d88a83e3c48817ad3c1de", func := "loop.example/pub-g03430/laws.FnMachoSection", spec := "fnMachoSection", unfollowed := true, recurses := true, named := ["io.ErrShortBuffer", "io.EOF", "io.ErrUnexpectedEOF"], apart := false, laid := [("io.ErrShortBuffer", laid_io_ErrShortBuffer), ("io.EOF", laid_io_EOF), ("io.ErrUnexpectedEOF", laid_io_ErrUnexpectedEOF)], narrowed := true }
def FnMachoSectionUptoSaid : Prop := fnMachoSectionUptoRow.holds Tryd.pinned (OpenSpec.upto fnMachoSectionSpec)

end Rows
end Go.Proofs.YtcdknbclhdllkaaDoor
