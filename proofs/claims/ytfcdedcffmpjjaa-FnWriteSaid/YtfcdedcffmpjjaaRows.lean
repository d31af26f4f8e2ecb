/-
  No cell of these rows narrows 'for every input' (looked for: loops, veiled, ifaces, maps, wideKeys, modest, calm, conditions, laid).
  DERIVED. THE GIVEN ROWS OF THIS SEAT. 12 by the template 'for every input the law returns true; each argument reads behind the call as it read before'; 0 by the template 'total and deterministic' (their statements: YtfcdedcffmpjjaaTotals.lean).
  GIVEN WITH THE SEED: the statements are not yours to turn. If you find one false, say at which input.
  Laid BY PROGRAM, IN A SANDBOX (cutbox-rows.mjs): the forced cells as the released guide's own fill.sh prints them over the translation ec6d5aac3949a083… (all of the seat's roots in one cut). By AI agents, Wed Nov 11 2026. No macro, syntax, notation, axiom, sorry.
-/
import Derived.Test.YtfcdedcffmpjjaaChecked
import GoSem.Claim
import GoSem.ClaimJoined
import GoSem.ClaimMapViews
import Derived.JoinedTies
import Derived.KernelRfl
namespace Go.Proofs.Ytfcdedcffmpjjaa
/- THE CELL 'sum', in the pinned program and in every row, IS THE sha256 OF THE DUMP (.gsa) THAT YtfcdedcffmpjjaaProg.lean LOADS. Nothing in Lean hashes anything: it is a label: what it is worth is what the hold of that sum in a sandbox is worth. -/
noncomputable def Try.pinned : Pinned := { name := "ytfcdedcffmpjjaa", sum := "ec6d5aac3949a083f503cccdc7b1b4f67aec671b02e6efc7e1b44a5a2093b4e2", checked := Try.checked }
namespace Rows
def none {H : Type} : Left H := { results := [], args := [] }

/-- 'laws.FnRound4': WHATEVER THE INPUT: true; the input reads as it did. -/
def fnRound4Spec : ChangeSpec := { name := "fnRound4", fn := fun _ => fun
  | [d] => { results := [.lit (.bool true)], args := [d] }
  | _ => none }
def fnRound4Row : OpenClaim := { program := "ytfcdedcffmpjjaa", sum := "ec6d5aac3949a083f503cccdc7b1b4f67aec671b02e6efc7e1b44a5a2093b4e2", func := "loop.example/pub-coveragepieces/laws.FnRound4", spec := "fnRound4", apart := false }
def FnRound4Said : Prop := fnRound4Row.holds Try.pinned (OpenSpec.ofChange fnRound4Spec)

/-- ITS FALSE NEIGHBOUR: 'it returns false'. Refute it at one input. -/
def fnRound4Wrong : ChangeSpec := { name := "fnRound4", fn := fun _ => fun
  | [d] => { results := [.lit (.bool false)], args := [d] }
  | _ => none }
def FnRound4WrongFalsely : Prop := fnRound4Row.holds Try.pinned (OpenSpec.ofChange fnRound4Wrong)

/-- 'laws.FnAdd': WHATEVER THE INPUT: true; the input reads as it did. -/
def fnAddSpec : ChangeSpec := { name := "fnAdd", fn := fun _ => fun
  | [d1, d2] => { results := [.lit (.bool true)], args := [d1, d2] }
  | _ => none }
def fnAddRow : OpenClaim := { program := "ytfcdedcffmpjjaa", sum := "ec6d5aac3949a083f503cccdc7b1b4f67aec671b02e6efc7e1b44a5a2093b4e2", func := "loop.example/pub-coveragepieces/laws.FnAdd", spec := "fnAdd", apart := false }
def FnAddSaid : Prop := fnAddRow.holds Try.pinned (OpenSpec.ofChange fnAddSpec)

/-- ITS FALSE NEIGHBOUR: 'it returns false'. Refute it at one input. -/
def fnAddWrong : ChangeSpec := { name := "fnAdd", fn := fun _ => fun
  | [d1, d2] => { results := [.lit (.bool false)], args := [d1, d2] }
  | _ => none }
def FnAddWrongFalsely : Prop := fnAddRow.holds Try.pinned (OpenSpec.ofChange fnAddWrong)

/-- 'laws.FnUleb': WHATEVER THE INPUT: true; the input reads as it did. -/
def fnUlebSpec : ChangeSpec := { name := "fnUleb", fn := fun _ => fun
  | [d1, d2] => { results := [.lit (.bool true)], args := [d1, d2] }
  | _ => none }
def fnUlebRow : OpenClaim := { program := "ytfcdedcffmpjjaa", sum := "ec6d5aac3949a083f503cccdc7b1b4f67aec671b02e6efc7e1b44a5a2093b4e2", func := "loop.example/pub-coveragepieces/laws.FnUleb", spec := "fnUleb", apart := false }
def FnUlebSaid : Prop := fnUlebRow.holds Try.pinned (OpenSpec.ofChange fnUlebSpec)

/-- ITS FALSE NEIGHBOUR: 'it returns false'. Refute it at one input. -/
def fnUlebWrong : ChangeSpec := { name := "fnUleb", fn := fun _ => fun
  | [d1, d2] => { results := [.lit (.bool false)], args := [d1, d2] }
  | _ => none }
def FnUlebWrongFalsely : Prop := fnUlebRow.holds Try.pinned (OpenSpec.ofChange fnUlebWrong)

/-- 'laws.FnParseMode': WHATEVER THE INPUT: true; the input reads as it did. -/
def fnParseModeSpec : ChangeSpec := { name := "fnParseMode", fn := fun _ => fun
  | [d] => { results := [.lit (.bool true)], args := [d] }
  | _ => none }
def fnParseModeRow : OpenClaim := { program := "ytfcdedcffmpjjaa", sum := "ec6d5aac3949a083f503cccdc7b1b4f67aec671b02e6efc7e1b44a5a2093b4e2", func := "loop.example/pub-coveragepieces/laws.FnParseMode", spec := "fnParseMode", apart := false }
def FnParseModeSaid : Prop := fnParseModeRow.holds Try.pinned (OpenSpec.ofChange fnParseModeSpec)

/-- ITS FALSE NEIGHBOUR: 'it returns false'. Refute it at one input. -/
def fnParseModeWrong : ChangeSpec := { name := "fnParseMode", fn := fun _ => fun
  | [d] => { results := [.lit (.bool false)], args := [d] }
  | _ => none }
def FnParseModeWrongFalsely : Prop := fnParseModeRow.holds Try.pinned (OpenSpec.ofChange fnParseModeWrong)

/-- 'laws.FnModeText': WHATEVER THE INPUT: true; the input reads as it did. -/
def fnModeTextSpec : ChangeSpec := { name := "fnModeText", fn := fun _ => fun
  | [d] => { results := [.lit (.bool true)], args := [d] }
  | _ => none }
def fnModeTextRow : OpenClaim := { program := "ytfcdedcffmpjjaa", sum := "ec6d5aac3949a083f503cccdc7b1b4f67aec671b02e6efc7e1b44a5a2093b4e2", func := "loop.example/pub-coveragepieces/laws.FnModeText", spec := "fnModeText", apart := false }
def FnModeTextSaid : Prop := fnModeTextRow.holds Try.pinned (OpenSpec.ofChange fnModeTextSpec)

/-- ITS FALSE NEIGHBOUR: 'it returns false'. Refute it at one input. -/
def fnModeTextWrong : ChangeSpec := { name := "fnModeText", fn := fun _ => fun
  | [d] => { results := [.lit (.bool false)], args := [d] }
  | _ => none }
def FnModeTextWrongFalsely : Prop := fnModeTextRow.holds Try.pinned (OpenSpec.ofChange fnModeTextWrong)

/-- 'laws.FnModes': WHATEVER THE INPUT: true; the input reads as it did. -/
def fnModesSpec : ChangeSpec := { name := "fnModes", fn := fun _ => fun
  | [d1, d2] => { results := [.lit (.bool true)], args := [d1, d2] }
  | _ => none }
def fnModesRow : OpenClaim := { program := "ytfcdedcffmpjjaa", sum := "ec6d5aac3949a083f503cccdc7b1b4f67aec671b02e6efc7e1b44a5a2093b4e2", func := "loop.example/pub-coveragepieces/laws.FnModes", spec := "fnModes", apart := false }
def FnModesSaid : Prop := fnModesRow.holds Try.pinned (OpenSpec.ofChange fnModesSpec)

/-- ITS FALSE NEIGHBOUR: 'it returns false'. Refute it at one input. -/
def fnModesWrong : ChangeSpec := { name := "fnModes", fn := fun _ => fun
  | [d1, d2] => { results := [.lit (.bool false)], args := [d1, d2] }
  | _ => none }
def FnModesWrongFalsely : Prop := fnModesRow.holds Try.pinned (OpenSpec.ofChange fnModesWrong)

/-- 'laws.FnWrite': WHATEVER THE INPUT: true; the input reads as it did. -/
def fnWriteSpec : ChangeSpec := { name := "fnWrite", fn := fun _ => fun
  | [d] => { results := [.lit (.bool true)], args := [d] }
  | _ => none }
def fnWriteRow : OpenClaim := { program := "ytfcdedcffmpjjaa", sum := "ec6d5aac3949a083f503cccdc7b1b4f67aec671b02e6efc7e1b44a5a2093b4e2", func := "loop.example/pub-coveragepieces/laws.FnWrite", spec := "fnWrite", apart := false }
def FnWriteSaid : Prop := fnWriteRow.holds Try.pinned (OpenSpec.ofChange fnWriteSpec)

/-- ITS FALSE NEIGHBOUR: 'it returns false'. Refute it at one input. -/
def fnWriteWrong : ChangeSpec := { name := "fnWrite", fn := fun _ => fun
  | [d] => { results := [.lit (.bool false)], args := [d] }
  | _ => none }
def FnWriteWrongFalsely : Prop := fnWriteRow.holds Try.pinned (OpenSpec.ofChange fnWriteWrong)

/-- 'laws.FnMerge': WHATEVER THE INPUT: true; the input reads as it did. -/
def fnMergeSpec : ChangeSpec := { name := "fnMerge", fn := fun _ => fun
  | [d1, d2, d3] => { results := [.lit (.bool true)], args := [d1, d2, d3] }
  | _ => none }
def fnMergeRow : OpenClaim := { program := "ytfcdedcffmpjjaa", sum := "ec6d5aac3949a083f503cccdc7b1b4f67aec671b02e6efc7e1b44a5a2093b4e2", func := "loop.example/pub-coveragepieces/laws.FnMerge", spec := "fnMerge", apart := false }
def FnMergeSaid : Prop := fnMergeRow.holds Try.pinned (OpenSpec.ofChange fnMergeSpec)

/-- ITS FALSE NEIGHBOUR: 'it returns false'. Refute it at one input. -/
def fnMergeWrong : ChangeSpec := { name := "fnMerge", fn := fun _ => fun
  | [d1, d2, d3] => { results := [.lit (.bool false)], args := [d1, d2, d3] }
  | _ => none }
def FnMergeWrongFalsely : Prop := fnMergeRow.holds Try.pinned (OpenSpec.ofChange fnMergeWrong)

/-- 'laws.FnMergeLengths': WHATEVER THE INPUT: true; the input reads as it did. -/
def fnMergeLengthsSpec : ChangeSpec := { name := "fnMergeLengths", fn := fun _ => fun
  | [d1, d2, d3] => { results := [.lit (.bool true)], args := [d1, d2, d3] }
  | _ => none }
def fnMergeLengthsRow : OpenClaim := { program := "ytfcdedcffmpjjaa", sum := "ec6d5aac3949a083f503cccdc7b1b4f67aec671b02e6efc7e1b44a5a2093b4e2", func := "loop.example/pub-coveragepieces/laws.FnMergeLengths", spec := "fnMergeLengths", apart := false }
def FnMergeLengthsSaid : Prop := fnMergeLengthsRow.holds Try.pinned (OpenSpec.ofChange fnMergeLengthsSpec)

/-- ITS FALSE NEIGHBOUR: 'it returns false'. Refute it at one input. -/
def fnMergeLengthsWrong : ChangeSpec := { name := "fnMergeLengths", fn := fun _ => fun
  | [d1, d2, d3] => { results := [.lit (.bool false)], args := [d1, d2, d3] }
  | _ => none }
def FnMergeLengthsWrongFalsely : Prop := fnMergeLengthsRow.holds Try.pinned (OpenSpec.ofChange fnMergeLengthsWrong)

/-- 'laws.FnMergeOrder': WHATEVER THE INPUT: true; the input reads as it did. -/
def fnMergeOrderSpec : ChangeSpec := { name := "fnMergeOrder", fn := fun _ => fun
  | [d1, d2, d3] => { results := [.lit (.bool true)], args := [d1, d2, d3] }
  | _ => none }
def fnMergeOrderRow : OpenClaim := { program := "ytfcdedcffmpjjaa", sum := "ec6d5aac3949a083f503cccdc7b1b4f67aec671b02e6efc7e1b44a5a2093b4e2", func := "loop.example/pub-coveragepieces/laws.FnMergeOrder", spec := "fnMergeOrder", apart := false }
def FnMergeOrderSaid : Prop := fnMergeOrderRow.holds Try.pinned (OpenSpec.ofChange fnMergeOrderSpec)

/-- ITS FALSE NEIGHBOUR: 'it returns false'. Refute it at one input. -/
def fnMergeOrderWrong : ChangeSpec := { name := "fnMergeOrder", fn := fun _ => fun
  | [d1, d2, d3] => { results := [.lit (.bool false)], args := [d1, d2, d3] }
  | _ => none }
def FnMergeOrderWrongFalsely : Prop := fnMergeOrderRow.holds Try.pinned (OpenSpec.ofChange fnMergeOrderWrong)

/-- 'laws.FnRead': WHATEVER THE INPUT: true; the input reads as it did. -/
def fnReadSpec : ChangeSpec := { name := "fnRead", fn := fun _ => fun
  | [d1, d2] => { results := [.lit (.bool true)], args := [d1, d2] }
  | _ => none }
def fnReadRow : OpenClaim := { program := "ytfcdedcffmpjjaa", sum := "ec6d5aac3949a083f503cccdc7b1b4f67aec671b02e6efc7e1b44a5a2093b4e2", func := "loop.example/pub-coveragepieces/laws.FnRead", spec := "fnRead", apart := false }
def FnReadSaid : Prop := fnReadRow.holds Try.pinned (OpenSpec.ofChange fnReadSpec)

/-- ITS FALSE NEIGHBOUR: 'it returns false'. Refute it at one input. -/
def fnReadWrong : ChangeSpec := { name := "fnRead", fn := fun _ => fun
  | [d1, d2] => { results := [.lit (.bool false)], args := [d1, d2] }
  | _ => none }
def FnReadWrongFalsely : Prop := fnReadRow.holds Try.pinned (OpenSpec.ofChange fnReadWrong)

/-- 'laws.FnUlebBack': WHATEVER THE INPUT: true; the input reads as it did. -/
def fnUlebBackSpec : ChangeSpec := { name := "fnUlebBack", fn := fun _ => fun
  | [d1, d2, d3] => { results := [.lit (.bool true)], args := [d1, d2, d3] }
  | _ => none }
def fnUlebBackRow : OpenClaim := { program := "ytfcdedcffmpjjaa", sum := "ec6d5aac3949a083f503cccdc7b1b4f67aec671b02e6efc7e1b44a5a2093b4e2", func := "loop.example/pub-coveragepieces/laws.FnUlebBack", spec := "fnUlebBack", apart := false }
def FnUlebBackSaid : Prop := fnUlebBackRow.holds Try.pinned (OpenSpec.ofChange fnUlebBackSpec)

/-- ITS FALSE NEIGHBOUR: 'it returns false'. Refute it at one input. -/
def fnUlebBackWrong : ChangeSpec := { name := "fnUlebBack", fn := fun _ => fun
  | [d1, d2, d3] => { results := [.lit (.bool false)], args := [d1, d2, d3] }
  | _ => none }
def FnUlebBackWrongFalsely : Prop := fnUlebBackRow.holds Try.pinned (OpenSpec.ofChange fnUlebBackWrong)

/- THE SECOND FORM. 'bulk': how many values and letters a reading holds, each counted each time it is reached (what is shared counts as often as it is met; a slice's spare places count too). A statement '..UptoSaid' is the law's where the arguments, and the package variables that the reading takes, are together of bulk at most 1048576: NARROWER than '..Said'. Prove '..Said' where nothing that the law and all that it calls make is longer than what came in: it says more and counts as full. Else prove '..UptoSaid'. A law counts once. -/
mutual
def uptoBulk {H : Type} : DataW H → Nat
  | .lit (.string bytes) => bytes.length + 1
  | .lit _ => 1
  | .nil => 1
  | .ptr d => uptoBulk d + 1
  | .slice elems spare => uptoBulkAll elems + uptoBulkAll spare + 1
  | .agg parts => uptoBulkAll parts + 1
  | .iface _ d => uptoBulk d + 1
  | .map entries => uptoBulkEntries entries + 1
  | .held _ => 1
def uptoBulkAll {H : Type} : List (DataW H) → Nat
  | [] => 0
  | d :: r => uptoBulk d + uptoBulkAll r
def uptoBulkEntries {H : Type} : List (Lit × DataW H) → Nat
  | [] => 0
  | x :: r => uptoBulkEntry x + uptoBulkEntries r
def uptoBulkEntry {H : Type} : Lit × DataW H → Nat
  | (.string bytes, d) => bytes.length + uptoBulk d + 1
  | (_, d) => uptoBulk d + 1
 end
def uptoSmall : (H : Type) → List (DataW H) → Bool := fun _ ds => decide (uptoBulkAll ds ≤ 1048576)
def OpenSpec.upto (s : _root_.Go.ChangeSpec) : _root_.Go.OpenSpec := { _root_.Go.OpenSpec.ofChange s with cond := some uptoSmall }

/-- 'laws.FnRound4', WHERE WHAT IT READS IS OF BULK AT MOST 1048576: true; the input reads as it did. -/
def fnRound4UptoRow : OpenClaim := { program := "ytfcdedcffmpjjaa", sum := "ec6d5aac3949a083f503cccdc7b1b4f67aec671b02e6efc7e1b44a5a2093b4e2", func := "loop.example/pub-coveragepieces/laws.FnRound4", spec := "fnRound4", apart := false, narrowed := true }
def FnRound4UptoSaid : Prop := fnRound4UptoRow.holds Try.pinned (OpenSpec.upto fnRound4Spec)

/-- 'laws.FnAdd', WHERE WHAT IT READS IS OF BULK AT MOST 1048576: true; the input reads as it did. -/
def fnAddUptoRow : OpenClaim := { program := "ytfcdedcffmpjjaa", sum := "ec6d5aac3949a083f503cccdc7b1b4f67aec671b02e6efc7e1b44a5a2093b4e2", func := "loop.example/pub-coveragepieces/laws.FnAdd", spec := "fnAdd", apart := false, narrowed := true }
def FnAddUptoSaid : Prop := fnAddUptoRow.holds Try.pinned (OpenSpec.upto fnAddSpec)

/-- 'laws.FnUleb', WHERE WHAT IT READS IS OF BULK AT MOST 1048576: true; the input reads as it did. -/
def fnUlebUptoRow : OpenClaim := { program := "ytfcdedcffmpjjaa", sum := "ec6d5aac3949a083f503cccdc7b1b4f67aec671b02e6efc7e1b44a5a2093b4e2", func := "loop.example/pub-coveragepieces/laws.FnUleb", spec := "fnUleb", apart := false, narrowed := true }
def FnUlebUptoSaid : Prop := fnUlebUptoRow.holds Try.pinned (OpenSpec.upto fnUlebSpec)

/-- 'laws.FnParseMode', WHERE WHAT IT READS IS OF BULK AT MOST 1048576: true; the input reads as it did. -/
def fnParseModeUptoRow : OpenClaim := { program := "ytfcdedcffmpjjaa", sum := "ec6d5aac3949a083f503cccdc7b1b4f67aec671b02e6efc7e1b44a5a2093b4e2", func := "loop.example/pub-coveragepieces/laws.FnParseMode", spec := "fnParseMode", apart := false, narrowed := true }
def FnParseModeUptoSaid : Prop := fnParseModeUptoRow.holds Try.pinned (OpenSpec.upto fnParseModeSpec)

/-- 'laws.FnModeText', WHERE WHAT IT READS IS OF BULK AT MOST 1048576: true; the input reads as it did. -/
def fnModeTextUptoRow : OpenClaim := { program := "ytfcdedcffmpjjaa", sum := "ec6d5aac3949a083f503cccdc7b1b4f67aec671b02e6efc7e1b44a5a2093b4e2", func := "loop.example/pub-coveragepieces/laws.FnModeText", spec := "fnModeText", apart := false, narrowed := true }
def FnModeTextUptoSaid : Prop := fnModeTextUptoRow.holds Try.pinned (OpenSpec.upto fnModeTextSpec)

/-- 'laws.FnModes', WHERE WHAT IT READS IS OF BULK AT MOST 1048576: true; the input reads as it did. -/
def fnModesUptoRow : OpenClaim := { program := "ytfcdedcffmpjjaa", sum := "ec6d5aac3949a083f503cccdc7b1b4f67aec671b02e6efc7e1b44a5a2093b4e2", func := "loop.example/pub-coveragepieces/laws.FnModes", spec := "fnModes", apart := false, narrowed := true }
def FnModesUptoSaid : Prop := fnModesUptoRow.holds Try.pinned (OpenSpec.upto fnModesSpec)

/-- 'laws.FnWrite', WHERE WHAT IT READS IS OF BULK AT MOST 1048576: true; the input reads as it did. -/
def fnWriteUptoRow : OpenClaim := { program := "ytfcdedcffmpjjaa", sum := "ec6d5aac3949a083f503cccdc7b1b4f67aec671b02e6efc7e1b44a5a2093b4e2", func := "loop.example/pub-coveragepieces/laws.FnWrite", spec := "fnWrite", apart := false, narrowed := true }
def FnWriteUptoSaid : Prop := fnWriteUptoRow.holds Try.pinned (OpenSpec.upto fnWriteSpec)

/-- 'laws.FnMerge', WHERE WHAT IT READS IS OF BULK AT MOST 1048576: true; the input reads as it did. -/
def fnMergeUptoRow : OpenClaim := { program := "ytfcdedcffmpjjaa", sum := "ec6d5aac3949a083f503cccdc7b1b4f67aec671b02e6efc7e1b44a5a2093b4e2", func := "loop.example/pub-coveragepieces/laws.FnMerge", spec := "fnMerge", apart := false, narrowed := true }
def FnMergeUptoSaid : Prop := fnMergeUptoRow.holds Try.pinned (OpenSpec.upto fnMergeSpec)

/-- 'laws.FnMergeLengths', WHERE WHAT IT READS IS OF BULK AT MOST 1048576: true; the input reads as it did. -/
def fnMergeLengthsUptoRow : OpenClaim := { program := "ytfcdedcffmpjjaa", sum := "ec6d5aac3949a083f503cccdc7b1b4f67aec671b02e6efc7e1b44a5a2093b4e2", func := "loop.example/pub-coveragepieces/laws.FnMergeLengths", spec := "fnMergeLengths", apart := false, narrowed := true }
def FnMergeLengthsUptoSaid : Prop := fnMergeLengthsUptoRow.holds Try.pinned (OpenSpec.upto fnMergeLengthsSpec)

/-- 'laws.FnMergeOrder', WHERE WHAT IT READS IS OF BULK AT MOST 1048576: true; the input reads as it did. -/
def fnMergeOrderUptoRow : OpenClaim := { program := "ytfcdedcffmpjjaa", sum := "ec6d5aac3949a083f503cccdc7b1b4f67aec671b02e6efc7e1b44a5a2093b4e2", func := "loop.example/pub-coveragepieces/laws.FnMergeOrder", spec := "fnMergeOrder", apart := false, narrowed := true }
def FnMergeOrderUptoSaid : Prop := fnMergeOrderUptoRow.holds Try.pinned (OpenSpec.upto fnMergeOrderSpec)

/-- 'laws.FnRead', WHERE WHAT IT READS IS OF BULK AT MOST 1048576: true; the input reads as it did. -/
def fnReadUptoRow : OpenClaim := { program := "ytfcdedcffmpjjaa", sum := "ec6d5aac3949a083f503cccdc7b1b4f67aec671b02e6efc7e1b44a5a2093b4e2", func := "loop.example/pub-coveragepieces/laws.FnRead", spec := "fnRead", apart := false, narrowed := true }
def FnReadUptoSaid : Prop := fnReadUptoRow.holds Try.pinned (OpenSpec.upto fnReadSpec)

/-- 'laws.FnUlebBack', WHERE WHAT IT READS IS OF BULK AT MOST 1048576: true; the input reads as it did. -/
def fnUlebBackUptoRow : OpenClaim := { program := "ytfcdedcffmpjjaa", sum := "ec6d5aac3949a083f503cccdc7b1b4f67aec671b02e6efc7e1b44a5a2093b4e2", func := "loop.example/pub-coveragepieces/laws.FnUlebBack", spec := "fnUlebBack", apart := false, narrowed := true }
def FnUlebBackUptoSaid : Prop := fnUlebBackUptoRow.holds Try.pinned (OpenSpec.upto fnUlebBackSpec)

end Rows
end Go.Proofs.Ytfcdedcffmpjjaa
