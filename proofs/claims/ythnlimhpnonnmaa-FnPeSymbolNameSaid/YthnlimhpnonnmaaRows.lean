/-
  No cell of these rows narrows 'for every input' (looked for: loops, veiled, ifaces, maps, wideKeys, modest, calm, conditions, laid).
  DERIVED. THE GIVEN ROWS OF THIS SEAT. 6 by the template 'for every input the law returns true; each argument reads behind the call as it read before'; 0 by the template 'total and deterministic' (their statements: YthnlimhpnonnmaaTotals.lean).
  GIVEN WITH THE SEED: the statements are not yours to turn. If you find one false, say at which input.
  Laid BY PROGRAM, IN A SANDBOX (cutbox-rows.mjs): the forced cells as the released guide's own fill.sh prints them over the translation 383527b3def20920… (all of the seat's roots in one cut). By AI agents, Wed Nov 11 2026. No macro, syntax, notation, axiom, sorry.
-/
import Derived.Test.YthnlimhpnonnmaaChecked
import GoSem.Claim
import GoSem.ClaimJoined
import GoSem.ClaimMapViews
import Derived.JoinedTies
import Derived.KernelRfl
namespace Go.Proofs.Ythnlimhpnonnmaa
/- THE CELL 'sum', in the pinned program and in every row, IS THE sha256 OF THE DUMP (.gsa) THAT YthnlimhpnonnmaaProg.lean LOADS. Nothing in Lean hashes anything: it is a label: what it is worth is what the hold of that sum in a sandbox is worth. -/
noncomputable def Try.pinned : Pinned := { name := "ythnlimhpnonnmaa", sum := "383527b3def20920832ec77c0c1ad8691f53e0aebd7f577ec5dd7db0b5251c61", checked := Try.checked }
namespace Rows
def none {H : Type} : Left H := { results := [], args := [] }

/-- 'laws.FnPeText': WHATEVER THE INPUT: true; the input reads as it did. -/
def fnPeTextSpec : ChangeSpec := { name := "fnPeText", fn := fun _ => fun
  | [d] => { results := [.lit (.bool true)], args := [d] }
  | _ => none }
def fnPeTextRow : OpenClaim := { program := "ythnlimhpnonnmaa", sum := "383527b3def20920832ec77c0c1ad8691f53e0aebd7f577ec5dd7db0b5251c61", func := "loop.example/pub-g03430/laws.FnPeText", spec := "fnPeText", inPlace := ["internal/bytealg.IndexByte"], apart := false }
def FnPeTextSaid : Prop := fnPeTextRow.holds Try.pinned (OpenSpec.ofChange fnPeTextSpec)

/-- ITS FALSE NEIGHBOUR: 'it returns false'. Refute it at one input. -/
def fnPeTextWrong : ChangeSpec := { name := "fnPeText", fn := fun _ => fun
  | [d] => { results := [.lit (.bool false)], args := [d] }
  | _ => none }
def FnPeTextWrongFalsely : Prop := fnPeTextRow.holds Try.pinned (OpenSpec.ofChange fnPeTextWrong)

/-- 'laws.FnPeTextAt': WHATEVER THE INPUT: true; the input reads as it did. -/
def fnPeTextAtSpec : ChangeSpec := { name := "fnPeTextAt", fn := fun _ => fun
  | [d1, d2] => { results := [.lit (.bool true)], args := [d1, d2] }
  | _ => none }
def fnPeTextAtRow : OpenClaim := { program := "ythnlimhpnonnmaa", sum := "383527b3def20920832ec77c0c1ad8691f53e0aebd7f577ec5dd7db0b5251c61", func := "loop.example/pub-g03430/laws.FnPeTextAt", spec := "fnPeTextAt", apart := false }
def FnPeTextAtSaid : Prop := fnPeTextAtRow.holds Try.pinned (OpenSpec.ofChange fnPeTextAtSpec)

/-- ITS FALSE NEIGHBOUR: 'it returns false'. Refute it at one input. -/
def fnPeTextAtWrong : ChangeSpec := { name := "fnPeTextAt", fn := fun _ => fun
  | [d1, d2] => { results := [.lit (.bool false)], args := [d1, d2] }
  | _ => none }
def FnPeTextAtWrongFalsely : Prop := fnPeTextAtRow.holds Try.pinned (OpenSpec.ofChange fnPeTextAtWrong)

/-- 'laws.FnPeString': WHATEVER THE INPUT: true; the input reads as it did. -/
def fnPeStringSpec : ChangeSpec := { name := "fnPeString", fn := fun _ => fun
  | [d1, d2] => { results := [.lit (.bool true)], args := [d1, d2] }
  | _ => none }
def fnPeStringRow : OpenClaim := { program := "ythnlimhpnonnmaa", sum := "383527b3def20920832ec77c0c1ad8691f53e0aebd7f577ec5dd7db0b5251c61", func := "loop.example/pub-g03430/laws.FnPeString", spec := "fnPeString", inPlace := ["internal/bytealg.IndexByte"], apart := false }
def FnPeStringSaid : Prop := fnPeStringRow.holds Try.pinned (OpenSpec.ofChange fnPeStringSpec)

/-- ITS FALSE NEIGHBOUR: 'it returns false'. Refute it at one input. -/
def fnPeStringWrong : ChangeSpec := { name := "fnPeString", fn := fun _ => fun
  | [d1, d2] => { results := [.lit (.bool false)], args := [d1, d2] }
  | _ => none }
def FnPeStringWrongFalsely : Prop := fnPeStringRow.holds Try.pinned (OpenSpec.ofChange fnPeStringWrong)

/-- 'laws.FnPeNameOffset': WHATEVER THE INPUT: true; the input reads as it did. -/
def fnPeNameOffsetSpec : ChangeSpec := { name := "fnPeNameOffset", fn := fun _ => fun
  | [d] => { results := [.lit (.bool true)], args := [d] }
  | _ => none }
def fnPeNameOffsetRow : OpenClaim := { program := "ythnlimhpnonnmaa", sum := "383527b3def20920832ec77c0c1ad8691f53e0aebd7f577ec5dd7db0b5251c61", func := "loop.example/pub-g03430/laws.FnPeNameOffset", spec := "fnPeNameOffset", apart := false }
def FnPeNameOffsetSaid : Prop := fnPeNameOffsetRow.holds Try.pinned (OpenSpec.ofChange fnPeNameOffsetSpec)

/-- ITS FALSE NEIGHBOUR: 'it returns false'. Refute it at one input. -/
def fnPeNameOffsetWrong : ChangeSpec := { name := "fnPeNameOffset", fn := fun _ => fun
  | [d] => { results := [.lit (.bool false)], args := [d] }
  | _ => none }
def FnPeNameOffsetWrongFalsely : Prop := fnPeNameOffsetRow.holds Try.pinned (OpenSpec.ofChange fnPeNameOffsetWrong)

/-- 'laws.FnPeSymbolName': WHATEVER THE INPUT: true; the input reads as it did. -/
def fnPeSymbolNameSpec : ChangeSpec := { name := "fnPeSymbolName", fn := fun _ => fun
  | [d1, d2] => { results := [.lit (.bool true)], args := [d1, d2] }
  | _ => none }
def fnPeSymbolNameRow : OpenClaim := { program := "ythnlimhpnonnmaa", sum := "383527b3def20920832ec77c0c1ad8691f53e0aebd7f577ec5dd7db0b5251c61", func := "loop.example/pub-g03430/laws.FnPeSymbolName", spec := "fnPeSymbolName", inPlace := ["internal/bytealg.IndexByte"], apart := false }
def FnPeSymbolNameSaid : Prop := fnPeSymbolNameRow.holds Try.pinned (OpenSpec.ofChange fnPeSymbolNameSpec)

/-- ITS FALSE NEIGHBOUR: 'it returns false'. Refute it at one input. -/
def fnPeSymbolNameWrong : ChangeSpec := { name := "fnPeSymbolName", fn := fun _ => fun
  | [d1, d2] => { results := [.lit (.bool false)], args := [d1, d2] }
  | _ => none }
def FnPeSymbolNameWrongFalsely : Prop := fnPeSymbolNameRow.holds Try.pinned (OpenSpec.ofChange fnPeSymbolNameWrong)

/-- 'laws.FnPePlain': WHATEVER THE INPUT: true; the input reads as it did. -/
def fnPePlainSpec : ChangeSpec := { name := "fnPePlain", fn := fun _ => fun
  | [d1, d2] => { results := [.lit (.bool true)], args := [d1, d2] }
  | _ => none }
def fnPePlainRow : OpenClaim := { program := "ythnlimhpnonnmaa", sum := "383527b3def20920832ec77c0c1ad8691f53e0aebd7f577ec5dd7db0b5251c61", func := "loop.example/pub-g03430/laws.FnPePlain", spec := "fnPePlain", inPlace := ["internal/bytealg.IndexByte"], apart := false }
def FnPePlainSaid : Prop := fnPePlainRow.holds Try.pinned (OpenSpec.ofChange fnPePlainSpec)

/-- ITS FALSE NEIGHBOUR: 'it returns false'. Refute it at one input. -/
def fnPePlainWrong : ChangeSpec := { name := "fnPePlain", fn := fun _ => fun
  | [d1, d2] => { results := [.lit (.bool false)], args := [d1, d2] }
  | _ => none }
def FnPePlainWrongFalsely : Prop := fnPePlainRow.holds Try.pinned (OpenSpec.ofChange fnPePlainWrong)

/- THE SECOND FORM. 'bulk': how many values and letters a reading holds, each counted each time it is reached (what is shared counts as often as it is met; a slice's spare places count too). A statement '..UptoSaid' is the law's where the arguments, and the package variables that the reading takes, are together of bulk at most 1048576: NARROWER than '..Said'. Prove '..Said' where nothing that the law and all that it calls make is longer than what came in: it says more and counts as full. Else prove '..UptoSaid'. A law counts once. -/
mutual
def uptoBulk {H : Type} : DataW H → Nat
  | .lit (.string bytes) => bytes.length + 1
  | .lit _ => 1
  | .nil => 1
  | .ptr d => uptoBulk d + 1
  | .slice elems spare => uptoBulkAll elems + uptoBulkAll spare + 1
  | .agg parts => uptoBulkAll parts + 1
  | .iface _ d => uptoBulk d + 1
  | .map entries => uptoBulkEntries entries + 1
  | .held _ => 1
def uptoBulkAll {H : Type} : List (DataW H) → Nat
  | [] => 0
  | d :: r => uptoBulk d + uptoBulkAll r
def uptoBulkEntries {H : Type} : List (Lit × DataW H) → Nat
  | [] => 0
  | x :: r => uptoBulkEntry x + uptoBulkEntries r
def uptoBulkEntry {H : Type} : Lit × DataW H → Nat
  | (.string bytes, d) => bytes.length + uptoBulk d + 1
  | (_, d) => uptoBulk d + 1
 end
def uptoSmall : (H : Type) → List (DataW H) → Bool := fun _ ds => decide (uptoBulkAll ds ≤ 1048576)
def OpenSpec.upto (s : _root_.Go.ChangeSpec) : _root_.Go.OpenSpec := { _root_.Go.OpenSpec.ofChange s with cond := some uptoSmall }

/-- 'laws.FnPeText', WHERE WHAT IT READS IS OF BULK AT MOST 1048576: true; the input reads as it did. -/
def fnPeTextUptoRow : OpenClaim := { program := "ythnlimhpnonnmaa", sum := "383527b3def20920832ec77c0c1ad8691f53e0aebd7f577ec5dd7db0b5251c61", func := "loop.example/pub-g03430/laws.FnPeText", spec := "fnPeText", inPlace := ["internal/bytealg.IndexByte"], apart := false, narrowed := true }
def FnPeTextUptoSaid : Prop := fnPeTextUptoRow.holds Try.pinned (OpenSpec.upto fnPeTextSpec)

/-- 'laws.FnPeTextAt', WHERE WHAT IT READS IS OF BULK AT MOST 1048576: true; the input reads as it did. -/
def fnPeTextAtUptoRow : OpenClaim := { program := "ythnlimhpnonnmaa", sum := "383527b3def20920832ec77c0c1ad8691f53e0aebd7f577ec5dd7db0b5251c61", func := "loop.example/pub-g03430/laws.FnPeTextAt", spec := "fnPeTextAt", apart := false, narrowed := true }
def FnPeTextAtUptoSaid : Prop := fnPeTextAtUptoRow.holds Try.pinned (OpenSpec.upto fnPeTextAtSpec)

/-- 'laws.FnPeString', WHERE WHAT IT READS IS OF BULK AT MOST 1048576: true; the input reads as it did. -/
def fnPeStringUptoRow : OpenClaim := { program := "ythnlimhpnonnmaa", sum := "383527b3def20920832ec77c0c1ad8691f53e0aebd7f577ec5dd7db0b5251c61", func := "loop.example/pub-g03430/laws.FnPeString", spec := "fnPeString", inPlace := ["internal/bytealg.IndexByte"], apart := false, narrowed := true }
def FnPeStringUptoSaid : Prop := fnPeStringUptoRow.holds Try.pinned (OpenSpec.upto fnPeStringSpec)

/-- 'laws.FnPeNameOffset', WHERE WHAT IT READS IS OF BULK AT MOST 1048576: true; the input reads as it did. -/
def fnPeNameOffsetUptoRow : OpenClaim := { program := "ythnlimhpnonnmaa", sum := "383527b3def20920832ec77c0c1ad8691f53e0aebd7f577ec5dd7db0b5251c61", func := "loop.example/pub-g03430/laws.FnPeNameOffset", spec := "fnPeNameOffset", apart := false, narrowed := true }
def FnPeNameOffsetUptoSaid : Prop := fnPeNameOffsetUptoRow.holds Try.pinned (OpenSpec.upto fnPeNameOffsetSpec)

/-- 'laws.FnPeSymbolName', WHERE WHAT IT READS IS OF BULK AT MOST 1048576: true; the input reads as it did. -/
def fnPeSymbolNameUptoRow : OpenClaim := { program := "ythnlimhpnonnmaa", sum := "383527b3def20920832ec77c0c1ad8691f53e0aebd7f577ec5dd7db0b5251c61", func := "loop.example/pub-g03430/laws.FnPeSymbolName", spec := "fnPeSymbolName", inPlace := ["internal/bytealg.IndexByte"], apart := false, narrowed := true }
def FnPeSymbolNameUptoSaid : Prop := fnPeSymbolNameUptoRow.holds Try.pinned (OpenSpec.upto fnPeSymbolNameSpec)

/-- 'laws.FnPePlain', WHERE WHAT IT READS IS OF BULK AT MOST 1048576: true; the input reads as it did. -/
def fnPePlainUptoRow : OpenClaim := { program := "ythnlimhpnonnmaa", sum := "383527b3def20920832ec77c0c1ad8691f53e0aebd7f577ec5dd7db0b5251c61", func := "loop.example/pub-g03430/laws.FnPePlain", spec := "fnPePlain", inPlace := ["internal/bytealg.IndexByte"], apart := false, narrowed := true }
def FnPePlainUptoSaid : Prop := fnPePlainUptoRow.holds Try.pinned (OpenSpec.upto fnPePlainSpec)

end Rows
end Go.Proofs.Ythnlimhpnonnmaa
