/-
  No cell of these rows narrows 'for every input' (looked for: loops, veiled, ifaces, maps, wideKeys, modest, calm, conditions, laid).
  DERIVED. THE GIVEN ROWS OF THIS SEAT. 4 by the template 'for every input the law returns true; each argument reads behind the call as it read before'; 0 by the template 'total and deterministic' (their statements: YtbmidlaakbpnlaaTotals.lean).
  GIVEN WITH THE SEED: the statements are not yours to turn. If you find one false, say at which input.
  Laid BY PROGRAM, IN A SANDBOX (cutbox-rows.mjs): the forced cells as the released guide's own fill.sh prints them over the translation 54e00652f2b73cce… (all of the seat's roots in one cut). By AI agents, Wed Nov 11 2026. No macro, syntax, notation, axiom, sorry.
-/
import Derived.Test.YtbmidlaakbpnlaaChecked
import GoSem.Claim
import GoSem.ClaimJoined
import GoSem.ClaimMapViews
import Derived.JoinedTies
import Derived.KernelRfl
namespace Go.Proofs.Ytbmidlaakbpnlaa
/- THE CELL 'sum', in the pinned program and in every row, IS THE sha256 OF THE DUMP (.gsa) THAT YtbmidlaakbpnlaaProg.lean LOADS. Nothing in Lean hashes anything: it is a label: what it is worth is what the hold of that sum in a sandbox is worth. -/
noncomputable def Try.pinned : Pinned := { name := "ytbmidlaakbpnlaa", sum := "54e00652f2b73cce64969e5a3273051783df5dcd0d581447ff913f943cd20ba8", checked := Try.checked }
namespace Rows
def none {H : Type} : Left H := { results := [], args := [] }

/-- 'laws.FnTable': WHATEVER THE INPUT: true; the input reads as it did. -/
def fnTableSpec : ChangeSpec := { name := "fnTable", fn := fun _ => fun
  | [d] => { results := [.lit (.bool true)], args := [d] }
  | _ => none }
def fnTableRow : OpenClaim := { program := "ytbmidlaakbpnlaa", sum := "54e00652f2b73cce64969e5a3273051783df5dcd0d581447ff913f943cd20ba8", func := "loop.example/pub-coveragepieces/laws.FnTable", spec := "fnTable", unfollowed := true, recurses := true, apart := false }
def FnTableSaid : Prop := fnTableRow.holds Try.pinned (OpenSpec.ofChange fnTableSpec)

/-- ITS FALSE NEIGHBOUR: 'it returns false'. Refute it at one input. -/
def fnTableWrong : ChangeSpec := { name := "fnTable", fn := fun _ => fun
  | [d] => { results := [.lit (.bool false)], args := [d] }
  | _ => none }
def FnTableWrongFalsely : Prop := fnTableRow.holds Try.pinned (OpenSpec.ofChange fnTableWrong)

/-- 'laws.FnTableBytes': WHATEVER THE INPUT: true; the input reads as it did. -/
def fnTableBytesSpec : ChangeSpec := { name := "fnTableBytes", fn := fun _ => fun
  | [d] => { results := [.lit (.bool true)], args := [d] }
  | _ => none }
def fnTableBytesRow : OpenClaim := { program := "ytbmidlaakbpnlaa", sum := "54e00652f2b73cce64969e5a3273051783df5dcd0d581447ff913f943cd20ba8", func := "loop.example/pub-coveragepieces/laws.FnTableBytes", spec := "fnTableBytes", unfollowed := true, recurses := true, apart := false }
def FnTableBytesSaid : Prop := fnTableBytesRow.holds Try.pinned (OpenSpec.ofChange fnTableBytesSpec)

/-- ITS FALSE NEIGHBOUR: 'it returns false'. Refute it at one input. -/
def fnTableBytesWrong : ChangeSpec := { name := "fnTableBytes", fn := fun _ => fun
  | [d] => { results := [.lit (.bool false)], args := [d] }
  | _ => none }
def FnTableBytesWrongFalsely : Prop := fnTableBytesRow.holds Try.pinned (OpenSpec.ofChange fnTableBytesWrong)

/-- 'laws.FnTableBack': WHATEVER THE INPUT: true; the input reads as it did. -/
def fnTableBackSpec : ChangeSpec := { name := "fnTableBack", fn := fun _ => fun
  | [d] => { results := [.lit (.bool true)], args := [d] }
  | _ => none }
def fnTableBackRow : OpenClaim := { program := "ytbmidlaakbpnlaa", sum := "54e00652f2b73cce64969e5a3273051783df5dcd0d581447ff913f943cd20ba8", func := "loop.example/pub-coveragepieces/laws.FnTableBack", spec := "fnTableBack", unfollowed := true, recurses := true, apart := false }
def FnTableBackSaid : Prop := fnTableBackRow.holds Try.pinned (OpenSpec.ofChange fnTableBackSpec)

/-- ITS FALSE NEIGHBOUR: 'it returns false'. Refute it at one input. -/
def fnTableBackWrong : ChangeSpec := { name := "fnTableBack", fn := fun _ => fun
  | [d] => { results := [.lit (.bool false)], args := [d] }
  | _ => none }
def FnTableBackWrongFalsely : Prop := fnTableBackRow.holds Try.pinned (OpenSpec.ofChange fnTableBackWrong)

/-- 'laws.FnMetaSame': WHATEVER THE INPUT: true; the input reads as it did. -/
def fnMetaSameSpec : ChangeSpec := { name := "fnMetaSame", fn := fun _ => fun
  | [d] => { results := [.lit (.bool true)], args := [d] }
  | _ => none }
def fnMetaSameRow : OpenClaim := { program := "ytbmidlaakbpnlaa", sum := "54e00652f2b73cce64969e5a3273051783df5dcd0d581447ff913f943cd20ba8", func := "loop.example/pub-coveragepieces/laws.FnMetaSame", spec := "fnMetaSame", unfollowed := true, recurses := true, apart := false }
def FnMetaSameSaid : Prop := fnMetaSameRow.holds Try.pinned (OpenSpec.ofChange fnMetaSameSpec)

/-- ITS FALSE NEIGHBOUR: 'it returns false'. Refute it at one input. -/
def fnMetaSameWrong : ChangeSpec := { name := "fnMetaSame", fn := fun _ => fun
  | [d] => { results := [.lit (.bool false)], args := [d] }
  | _ => none }
def FnMetaSameWrongFalsely : Prop := fnMetaSameRow.holds Try.pinned (OpenSpec.ofChange fnMetaSameWrong)

/- THE SECOND FORM. 'bulk': how many values and letters a reading holds, each counted each time it is reached (what is shared counts as often as it is met; a slice's spare places count too). A statement '..UptoSaid' is the law's where the arguments, and the package variables that the reading takes, are together of bulk at most 1048576: NARROWER than '..Said'. Prove '..Said' where nothing that the law and all that it calls make is longer than what came in: it says more and counts as full. Else prove '..UptoSaid'. A law counts once. -/
mutual
def uptoBulk {H : Type} : DataW H → Nat
  | .lit (.string bytes) => bytes.length + 1
  | .lit _ => 1
  | .nil => 1
  | .ptr d => uptoBulk d + 1
  | .slice elems spare => uptoBulkAll elems + uptoBulkAll spare + 1
  | .agg parts => uptoBulkAll parts + 1
  | .iface _ d => uptoBulk d + 1
  | .map entries => uptoBulkEntries entries + 1
  | .held _ => 1
def uptoBulkAll {H : Type} : List (DataW H) → Nat
  | [] => 0
  | d :: r => uptoBulk d + uptoBulkAll r
def uptoBulkEntries {H : Type} : List (Lit × DataW H) → Nat
  | [] => 0
  | x :: r => uptoBulkEntry x + uptoBulkEntries r
def uptoBulkEntry {H : Type} : Lit × DataW H → Nat
  | (.string bytes, d) => bytes.length + uptoBulk d + 1
  | (_, d) => uptoBulk d + 1
 end
def uptoSmall : (H : Type) → List (DataW H) → Bool := fun _ ds => decide (uptoBulkAll ds ≤ 1048576)
def OpenSpec.upto (s : _root_.Go.ChangeSpec) : _root_.Go.OpenSpec := { _root_.Go.OpenSpec.ofChange s with cond := some uptoSmall }

/-- 'laws.FnTable', WHERE WHAT IT READS IS OF BULK AT MOST 1048576: true; the input reads as it did. -/
def fnTableUptoRow : OpenClaim := { program := "ytbmidlaakbpnlaa", sum := "54e00652f2b73cce64969e5a3273051783df5dcd0d581447ff913f943cd20ba8", func := "loop.example/pub-coveragepieces/laws.FnTable", spec := "fnTable", unfollowed := true, recurses := true, apart := false, narrowed := true }
def FnTableUptoSaid : Prop := fnTableUptoRow.holds Try.pinned (OpenSpec.upto fnTableSpec)

/-- 'laws.FnTableBytes', WHERE WHAT IT READS IS OF BULK AT MOST 1048576: true; the input reads as it did. -/
def fnTableBytesUptoRow : OpenClaim := { program := "ytbmidlaakbpnlaa", sum := "54e00652f2b73cce64969e5a3273051783df5dcd0d581447ff913f943cd20ba8", func := "loop.example/pub-coveragepieces/laws.FnTableBytes", spec := "fnTableBytes", unfollowed := true, recurses := true, apart := false, narrowed := true }
def FnTableBytesUptoSaid : Prop := fnTableBytesUptoRow.holds Try.pinned (OpenSpec.upto fnTableBytesSpec)

/-- 'laws.FnTableBack', WHERE WHAT IT READS IS OF BULK AT MOST 1048576: true; the input reads as it did. -/
def fnTableBackUptoRow : OpenClaim := { program := "ytbmidlaakbpnlaa", sum := "54e00652f2b73cce64969e5a3273051783df5dcd0d581447ff913f943cd20ba8", func := "loop.example/pub-coveragepieces/laws.FnTableBack", spec := "fnTableBack", unfollowed := true, recurses := true, apart := false, narrowed := true }
def FnTableBackUptoSaid : Prop := fnTableBackUptoRow.holds Try.pinned (OpenSpec.upto fnTableBackSpec)

/-- 'laws.FnMetaSame', WHERE WHAT IT READS IS OF BULK AT MOST 1048576: true; the input reads as it did. -/
def fnMetaSameUptoRow : OpenClaim := { program := "ytbmidlaakbpnlaa", sum := "54e00652f2b73cce64969e5a3273051783df5dcd0d581447ff913f943cd20ba8", func := "loop.example/pub-coveragepieces/laws.FnMetaSame", spec := "fnMetaSame", unfollowed := true, recurses := true, apart := false, narrowed := true }
def FnMetaSameUptoSaid : Prop := fnMetaSameUptoRow.holds Try.pinned (OpenSpec.upto fnMetaSameSpec)

end Rows
end Go.Proofs.Ytbmidlaakbpnlaa
