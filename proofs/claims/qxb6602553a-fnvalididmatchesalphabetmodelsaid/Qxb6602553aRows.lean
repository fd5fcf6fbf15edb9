/-
  No cell of these rows narrows 'for every input' (looked for: loops, veiled, ifaces, maps, wideKeys, modest, calm, conditions, laid).
  DERIVED. THE GIVEN ROWS OF THIS SEAT. 5 by the template 'for every input the law returns true; each argument reads behind the call as it read before'; 0 by the template 'total and deterministic' (their statements: Qxb6602553aTotals.lean).
  GIVEN WITH THE SEED: the statements are not yours to turn. If you find one false, say at which input.
  Laid BY PROGRAM, IN A SANDBOX (cutbox-rows.mjs): the forced cells as the released guide's own fill.sh prints them over the translation 9fd7086e2185bd87… (all of the seat's roots in one cut). By AI agents, Wed Nov 11 2026. No macro, syntax, notation, axiom, sorry.
-/
import Derived.Test.Qxb6602553aChecked
import GoSem.Claim
import GoSem.ClaimJoined
import GoSem.ClaimMapViews
import Derived.JoinedTies
import Derived.KernelRfl
namespace Go.Proofs.Qxb6602553a
/- THE CELL 'sum', in the pinned program and in every row, IS THE sha256 OF THE DUMP (.gsa) THAT Qxb6602553aProg.lean LOADS. Nothing in Lean hashes anything: it is a label: what it is worth is what the hold of that sum in a sandbox is worth. -/
noncomputable def Try.pinned : Pinned := { name := "qxb6602553a", sum := "9fd7086e2185bd87a368ef9d56060d6ad352de12ea192af7b7b4d9c820335400", checked := Try.checked }
namespace Rows
def none {H : Type} : Left H := { results := [], args := [] }

/-- 'zzlaws_internal_message_b1.FnValidIDMatchesAlphabetModel': WHATEVER THE INPUT: true; the input reads as it did. -/
def fnValidIDMatchesAlphabetModelSpec : ChangeSpec := { name := "fnValidIDMatchesAlphabetModel", fn := fun _ => fun
  | [d] => { results := [.lit (.bool true)], args := [d] }
  | _ => none }
def fnValidIDMatchesAlphabetModelRow : OpenClaim := { program := "qxb6602553a", sum := "9fd7086e2185bd87a368ef9d56060d6ad352de12ea192af7b7b4d9c820335400", func := "example.com/cubbyhole/cubbyhole/zzlaws_internal_message_b1.FnValidIDMatchesAlphabetModel", spec := "fnValidIDMatchesAlphabetModel", apart := false }
def FnValidIDMatchesAlphabetModelSaid : Prop := fnValidIDMatchesAlphabetModelRow.holds Try.pinned (OpenSpec.ofChange fnValidIDMatchesAlphabetModelSpec)

/-- ITS FALSE NEIGHBOUR: 'it returns false'. Refute it at one input. -/
def fnValidIDMatchesAlphabetModelWrong : ChangeSpec := { name := "fnValidIDMatchesAlphabetModel", fn := fun _ => fun
  | [d] => { results := [.lit (.bool false)], args := [d] }
  | _ => none }
def FnValidIDMatchesAlphabetModelWrongFalsely : Prop := fnValidIDMatchesAlphabetModelRow.holds Try.pinned (OpenSpec.ofChange fnValidIDMatchesAlphabetModelWrong)

/-- 'zzlaws_internal_message_b1.FnValidIDConcatenation': WHATEVER THE INPUT: true; the input reads as it did. -/
def fnValidIDConcatenationSpec : ChangeSpec := { name := "fnValidIDConcatenation", fn := fun _ => fun
  | [d1, d2] => { results := [.lit (.bool true)], args := [d1, d2] }
  | _ => none }
def fnValidIDConcatenationRow : OpenClaim := { program := "qxb6602553a", sum := "9fd7086e2185bd87a368ef9d56060d6ad352de12ea192af7b7b4d9c820335400", func := "example.com/cubbyhole/cubbyhole/zzlaws_internal_message_b1.FnValidIDConcatenation", spec := "fnValidIDConcatenation", apart := false }
def FnValidIDConcatenationSaid : Prop := fnValidIDConcatenationRow.holds Try.pinned (OpenSpec.ofChange fnValidIDConcatenationSpec)

/-- ITS FALSE NEIGHBOUR: 'it returns false'. Refute it at one input. -/
def fnValidIDConcatenationWrong : ChangeSpec := { name := "fnValidIDConcatenation", fn := fun _ => fun
  | [d1, d2] => { results := [.lit (.bool false)], args := [d1, d2] }
  | _ => none }
def FnValidIDConcatenationWrongFalsely : Prop := fnValidIDConcatenationRow.holds Try.pinned (OpenSpec.ofChange fnValidIDConcatenationWrong)

/-- 'zzlaws_internal_message_b1.FnValidIDReadsPlainUnlessDashOrNull': WHATEVER THE INPUT: true; the input reads as it did. -/
def fnValidIDReadsPlainUnlessDashOrNullSpec : ChangeSpec := { name := "fnValidIDReadsPlainUnlessDashOrNull", fn := fun _ => fun
  | [d] => { results := [.lit (.bool true)], args := [d] }
  | _ => none }
def fnValidIDReadsPlainUnlessDashOrNullRow : OpenClaim := { program := "qxb6602553a", sum := "9fd7086e2185bd87a368ef9d56060d6ad352de12ea192af7b7b4d9c820335400", func := "example.com/cubbyhole/cubbyhole/zzlaws_internal_message_b1.FnValidIDReadsPlainUnlessDashOrNull", spec := "fnValidIDReadsPlainUnlessDashOrNull", inPlace := ["internal/bytealg.IndexByteString"], apart := false }
def FnValidIDReadsPlainUnlessDashOrNullSaid : Prop := fnValidIDReadsPlainUnlessDashOrNullRow.holds Try.pinned (OpenSpec.ofChange fnValidIDReadsPlainUnlessDashOrNullSpec)

/-- ITS FALSE NEIGHBOUR: 'it returns false'. Refute it at one input. -/
def fnValidIDReadsPlainUnlessDashOrNullWrong : ChangeSpec := { name := "fnValidIDReadsPlainUnlessDashOrNull", fn := fun _ => fun
  | [d] => { results := [.lit (.bool false)], args := [d] }
  | _ => none }
def FnValidIDReadsPlainUnlessDashOrNullWrongFalsely : Prop := fnValidIDReadsPlainUnlessDashOrNullRow.holds Try.pinned (OpenSpec.ofChange fnValidIDReadsPlainUnlessDashOrNullWrong)

/-- 'zzlaws_internal_message_b1.FnReadsPlainMatchesCaseTable': WHATEVER THE INPUT: true; the input reads as it did. -/
def fnReadsPlainMatchesCaseTableSpec : ChangeSpec := { name := "fnReadsPlainMatchesCaseTable", fn := fun _ => fun
  | [d] => { results := [.lit (.bool true)], args := [d] }
  | _ => none }
def fnReadsPlainMatchesCaseTableRow : OpenClaim := { program := "qxb6602553a", sum := "9fd7086e2185bd87a368ef9d56060d6ad352de12ea192af7b7b4d9c820335400", func := "example.com/cubbyhole/cubbyhole/zzlaws_internal_message_b1.FnReadsPlainMatchesCaseTable", spec := "fnReadsPlainMatchesCaseTable", inPlace := ["internal/bytealg.IndexByteString"], apart := false }
def FnReadsPlainMatchesCaseTableSaid : Prop := fnReadsPlainMatchesCaseTableRow.holds Try.pinned (OpenSpec.ofChange fnReadsPlainMatchesCaseTableSpec)

/-- ITS FALSE NEIGHBOUR: 'it returns false'. Refute it at one input. -/
def fnReadsPlainMatchesCaseTableWrong : ChangeSpec := { name := "fnReadsPlainMatchesCaseTable", fn := fun _ => fun
  | [d] => { results := [.lit (.bool false)], args := [d] }
  | _ => none }
def FnReadsPlainMatchesCaseTableWrongFalsely : Prop := fnReadsPlainMatchesCaseTableRow.holds Try.pinned (OpenSpec.ofChange fnReadsPlainMatchesCaseTableWrong)

/-- 'zzlaws_internal_message_b1.FnReadsPlainJoinedBySpace': WHATEVER THE INPUT: true; the input reads as it did. -/
def fnReadsPlainJoinedBySpaceSpec : ChangeSpec := { name := "fnReadsPlainJoinedBySpace", fn := fun _ => fun
  | [d1, d2] => { results := [.lit (.bool true)], args := [d1, d2] }
  | _ => none }
def fnReadsPlainJoinedBySpaceRow : OpenClaim := { program := "qxb6602553a", sum := "9fd7086e2185bd87a368ef9d56060d6ad352de12ea192af7b7b4d9c820335400", func := "example.com/cubbyhole/cubbyhole/zzlaws_internal_message_b1.FnReadsPlainJoinedBySpace", spec := "fnReadsPlainJoinedBySpace", inPlace := ["internal/bytealg.IndexByteString"], apart := false }
def FnReadsPlainJoinedBySpaceSaid : Prop := fnReadsPlainJoinedBySpaceRow.holds Try.pinned (OpenSpec.ofChange fnReadsPlainJoinedBySpaceSpec)

/-- ITS FALSE NEIGHBOUR: 'it returns false'. Refute it at one input. -/
def fnReadsPlainJoinedBySpaceWrong : ChangeSpec := { name := "fnReadsPlainJoinedBySpace", fn := fun _ => fun
  | [d1, d2] => { results := [.lit (.bool false)], args := [d1, d2] }
  | _ => none }
def FnReadsPlainJoinedBySpaceWrongFalsely : Prop := fnReadsPlainJoinedBySpaceRow.holds Try.pinned (OpenSpec.ofChange fnReadsPlainJoinedBySpaceWrong)

end Rows
end Go.Proofs.Qxb6602553a
