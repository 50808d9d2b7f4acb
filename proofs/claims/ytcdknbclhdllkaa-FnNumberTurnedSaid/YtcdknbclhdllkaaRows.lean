/-
  No cell of these rows narrows 'for every input' (looked for: loops, veiled, ifaces, maps, wideKeys, modest, calm, conditions, laid).
  DERIVED. THE GIVEN ROWS OF THIS SEAT. 5 by the template 'for every input the law returns true; each argument reads behind the call as it read before'; 0 by the template 'total and deterministic' (their statements: YtcdknbclhdllkaaTotals.lean).
  GIVEN WITH THE SEED: the statements are not yours to turn. If you find one false, say at which input.
  Laid BY PROGRAM, IN A SANDBOX (cutbox-rows.mjs): the forced cells as the released guide's own fill.sh prints them over the translation 6464952a84195b53… (all of the seat's roots in one cut). By AI agents, Wed Nov 11 2026. No macro, syntax, notation, axiom, sorry.
-/
import Derived.Test.YtcdknbclhdllkaaChecked
import GoSem.Claim
import GoSem.ClaimJoined
import GoSem.ClaimMapViews
import Derived.JoinedTies
import Derived.KernelRfl
namespace Go.Proofs.Ytcdknbclhdllkaa
/- THE CELL 'sum', in the pinned program and in every row, IS THE sha256 OF THE DUMP (.gsa) THAT YtcdknbclhdllkaaProg.lean LOADS. Nothing in Lean hashes anything: it is a label: what it is worth is what the hold of that sum in a sandbox is worth. -/
noncomputable def Try.pinned : Pinned := { name := "ytcdknbclhdllkaa", sum := "6464952a84195b538a5f7acd049688b433346d3cb1c36ca87b6062052e6497ef", checked := Try.checked }
namespace Rows
def none {H : Type} : Left H := { results := [], args := [] }

/-- 'laws.FnMachoText': WHATEVER THE INPUT: true; the input reads as it did. -/
def fnMachoTextSpec : ChangeSpec := { name := "fnMachoText", fn := fun _ => fun
  | [d] => { results := [.lit (.bool true)], args := [d] }
  | _ => none }
def fnMachoTextRow : OpenClaim := { program := "ytcdknbclhdllkaa", sum := "6464952a84195b538a5f7acd049688b433346d3cb1c36ca87b6062052e6497ef", func := "loop.example/pub-g03430/laws.FnMachoText", spec := "fnMachoText", inPlace := ["internal/bytealg.IndexByte"], apart := false }
def FnMachoTextSaid : Prop := fnMachoTextRow.holds Try.pinned (OpenSpec.ofChange fnMachoTextSpec)

/-- ITS FALSE NEIGHBOUR: 'it returns false'. Refute it at one input. -/
def fnMachoTextWrong : ChangeSpec := { name := "fnMachoText", fn := fun _ => fun
  | [d] => { results := [.lit (.bool false)], args := [d] }
  | _ => none }
def FnMachoTextWrongFalsely : Prop := fnMachoTextRow.holds Try.pinned (OpenSpec.ofChange fnMachoTextWrong)

/-- 'laws.FnMachoTextCut': WHATEVER THE INPUT: true; the input reads as it did. -/
def fnMachoTextCutSpec : ChangeSpec := { name := "fnMachoTextCut", fn := fun _ => fun
  | [d1, d2] => { results := [.lit (.bool true)], args := [d1, d2] }
  | _ => none }
def fnMachoTextCutRow : OpenClaim := { program := "ytcdknbclhdllkaa", sum := "6464952a84195b538a5f7acd049688b433346d3cb1c36ca87b6062052e6497ef", func := "loop.example/pub-g03430/laws.FnMachoTextCut", spec := "fnMachoTextCut", inPlace := ["internal/bytealg.IndexByte"], apart := false }
def FnMachoTextCutSaid : Prop := fnMachoTextCutRow.holds Try.pinned (OpenSpec.ofChange fnMachoTextCutSpec)

/-- ITS FALSE NEIGHBOUR: 'it returns false'. Refute it at one input. -/
def fnMachoTextCutWrong : ChangeSpec := { name := "fnMachoTextCut", fn := fun _ => fun
  | [d1, d2] => { results := [.lit (.bool false)], args := [d1, d2] }
  | _ => none }
def FnMachoTextCutWrongFalsely : Prop := fnMachoTextCutRow.holds Try.pinned (OpenSpec.ofChange fnMachoTextCutWrong)

/-- 'laws.FnNumber': WHATEVER THE INPUT: true; the input reads as it did. -/
def fnNumberSpec : ChangeSpec := { name := "fnNumber", fn := fun _ => fun
  | [d1, d2, d3] => { results := [.lit (.bool true)], args := [d1, d2, d3] }
  | _ => none }
def fnNumberRow : OpenClaim := { program := "ytcdknbclhdllkaa", sum := "6464952a84195b538a5f7acd049688b433346d3cb1c36ca87b6062052e6497ef", func := "loop.example/pub-g03430/laws.FnNumber", spec := "fnNumber", apart := false }
def FnNumberSaid : Prop := fnNumberRow.holds Try.pinned (OpenSpec.ofChange fnNumberSpec)

/-- ITS FALSE NEIGHBOUR: 'it returns false'. Refute it at one input. -/
def fnNumberWrong : ChangeSpec := { name := "fnNumber", fn := fun _ => fun
  | [d1, d2, d3] => { results := [.lit (.bool false)], args := [d1, d2, d3] }
  | _ => none }
def FnNumberWrongFalsely : Prop := fnNumberRow.holds Try.pinned (OpenSpec.ofChange fnNumberWrong)

/-- 'laws.FnNumberBack': WHATEVER THE INPUT: true; the input reads as it did. -/
def fnNumberBackSpec : ChangeSpec := { name := "fnNumberBack", fn := fun _ => fun
  | [d1, d2, d3] => { results := [.lit (.bool true)], args := [d1, d2, d3] }
  | _ => none }
def fnNumberBackRow : OpenClaim := { program := "ytcdknbclhdllkaa", sum := "6464952a84195b538a5f7acd049688b433346d3cb1c36ca87b6062052e6497ef", func := "loop.example/pub-g03430/laws.FnNumberBack", spec := "fnNumberBack", apart := false }
def FnNumberBackSaid : Prop := fnNumberBackRow.holds Try.pinned (OpenSpec.ofChange fnNumberBackSpec)

/-- ITS FALSE NEIGHBOUR: 'it returns false'. Refute it at one input. -/
def fnNumberBackWrong : ChangeSpec := { name := "fnNumberBack", fn := fun _ => fun
  | [d1, d2, d3] => { results := [.lit (.bool false)], args := [d1, d2, d3] }
  | _ => none }
def FnNumberBackWrongFalsely : Prop := fnNumberBackRow.holds Try.pinned (OpenSpec.ofChange fnNumberBackWrong)

/-- 'laws.FnNumberTurned': WHATEVER THE INPUT: true; the input reads as it did. -/
def fnNumberTurnedSpec : ChangeSpec := { name := "fnNumberTurned", fn := fun _ => fun
  | [d1, d2, d3] => { results := [.lit (.bool true)], args := [d1, d2, d3] }
  | _ => none }
def fnNumberTurnedRow : OpenClaim := { program := "ytcdknbclhdllkaa", sum := "6464952a84195b538a5f7acd049688b433346d3cb1c36ca87b6062052e6497ef", func := "loop.example/pub-g03430/laws.FnNumberTurned", spec := "fnNumberTurned", apart := false }
def FnNumberTurnedSaid : Prop := fnNumberTurnedRow.holds Try.pinned (OpenSpec.ofChange fnNumberTurnedSpec)

/-- ITS FALSE NEIGHBOUR: 'it returns false'. Refute it at one input. -/
def fnNumberTurnedWrong : ChangeSpec := { name := "fnNumberTurned", fn := fun _ => fun
  | [d1, d2, d3] => { results := [.lit (.bool false)], args := [d1, d2, d3] }
  | _ => none }
def FnNumberTurnedWrongFalsely : Prop := fnNumberTurnedRow.holds Try.pinned (OpenSpec.ofChange fnNumberTurnedWrong)

/- THE SECOND FORM. 'bulk': how many values and letters a reading holds, each counted each time it is reached (what is shared counts as often as it is met; a slice's spare places count too). A statement '..UptoSaid' is the law's where the arguments, and the package variables that the reading takes, are together of bulk at most 1048576: NARROWER than '..Said'. Prove '..Said' where nothing that the law and all that it calls make is longer than what came in: it says more and counts as full. Else prove '..UptoSaid'. A law counts once. -/
mutual
def uptoBulk {H : Type} : DataW H → Nat
  | .lit (.string bytes) => bytes.length + 1
  | .lit _ => 1
  | .nil => 1
  | .ptr d => uptoBulk d + 1
  | .slice elems spare => uptoBulkAll elems + uptoBulkAll spare + 1
  | .agg parts => uptoBulkAll parts + 1
  | .iface _ d => uptoBulk d + 1
  | .map entries => uptoBulkEntries entries + 1
  | .held _ => 1
def uptoBulkAll {H : Type} : List (DataW H) → Nat
  | [] => 0
  | d :: r => uptoBulk d + uptoBulkAll r
def uptoBulkEntries {H : Type} : List (Lit × DataW H) → Nat
  | [] => 0
  | x :: r => uptoBulkEntry x + uptoBulkEntries r
def uptoBulkEntry {H : Type} : Lit × DataW H → Nat
  | (.string bytes, d) => bytes.length + uptoBulk d + 1
  | (_, d) => uptoBulk d + 1
 end
def uptoSmall : (H : Type) → List (DataW H) → Bool := fun _ ds => decide (uptoBulkAll ds ≤ 1048576)
def OpenSpec.upto (s : _root_.Go.ChangeSpec) : _root_.Go.OpenSpec := { _root_.Go.OpenSpec.ofChange s with cond := some uptoSmall }

/-- 'laws.FnMachoText', WHERE WHAT IT READS IS OF BULK AT MOST 1048576: true; the input reads as it did. -/
def fnMachoTextUptoRow : OpenClaim := { program := "ytcdknbclhdllkaa", sum := "6464952a84195b538a5f7acd049688b433346d3cb1c36ca87b6062052e6497ef", func := "loop.example/pub-g03430/laws.FnMachoText", spec := "fnMachoText", inPlace := ["internal/bytealg.IndexByte"], apart := false, narrowed := true }
def FnMachoTextUptoSaid : Prop := fnMachoTextUptoRow.holds Try.pinned (OpenSpec.upto fnMachoTextSpec)

/-- 'laws.FnMachoTextCut', WHERE WHAT IT READS IS OF BULK AT MOST 1048576: true; the input reads as it did. -/
def fnMachoTextCutUptoRow : OpenClaim := { program := "ytcdknbclhdllkaa", sum := "6464952a84195b538a5f7acd049688b433346d3cb1c36ca87b6062052e6497ef", func := "loop.example/pub-g03430/laws.FnMachoTextCut", spec := "fnMachoTextCut", inPlace := ["internal/bytealg.IndexByte"], apart := false, narrowed := true }
def FnMachoTextCutUptoSaid : Prop := fnMachoTextCutUptoRow.holds Try.pinned (OpenSpec.upto fnMachoTextCutSpec)

/-- 'laws.FnNumber', WHERE WHAT IT READS IS OF BULK AT MOST 1048576: true; the input reads as it did. -/
def fnNumberUptoRow : OpenClaim := { program := "ytcdknbclhdllkaa", sum := "6464952a84195b538a5f7acd049688b433346d3cb1c36ca87b6062052e6497ef", func := "loop.example/pub-g03430/laws.FnNumber", spec := "fnNumber", apart := false, narrowed := true }
def FnNumberUptoSaid : Prop := fnNumberUptoRow.holds Try.pinned (OpenSpec.upto fnNumberSpec)

/-- 'laws.FnNumberBack', WHERE WHAT IT READS IS OF BULK AT MOST 1048576: true; the input reads as it did. -/
def fnNumberBackUptoRow : OpenClaim := { program := "ytcdknbclhdllkaa", sum := "6464952a84195b538a5f7acd049688b433346d3cb1c36ca87b6062052e6497ef", func := "loop.example/pub-g03430/laws.FnNumberBack", spec := "fnNumberBack", apart := false, narrowed := true }
def FnNumberBackUptoSaid : Prop := fnNumberBackUptoRow.holds Try.pinned (OpenSpec.upto fnNumberBackSpec)

/-- 'laws.FnNumberTurned', WHERE WHAT IT READS IS OF BULK AT MOST 1048576: true; the input reads as it did. -/
def fnNumberTurnedUptoRow : OpenClaim := { program := "ytcdknbclhdllkaa", sum := "6464952a84195b538a5f7acd049688b433346d3cb1c36ca87b6062052e6497ef", func := "loop.example/pub-g03430/laws.FnNumberTurned", spec := "fnNumberTurned", apart := false, narrowed := true }
def FnNumberTurnedUptoSaid : Prop := fnNumberTurnedUptoRow.holds Try.pinned (OpenSpec.upto fnNumberTurnedSpec)

end Rows
end Go.Proofs.Ytcdknbclhdllkaa
