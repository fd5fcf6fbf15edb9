/-
  No cell of these rows narrows 'for every input' (looked for: loops, veiled, ifaces, maps, wideKeys, modest, calm, conditions, laid).
  DERIVED. THE GIVEN ROWS OF THIS SEAT. 5 by the template 'for every input the law returns true; each argument reads behind the call as it read before'; 0 by the template 'total and deterministic' (their statements: Qxb6604372aTotals.lean).
  GIVEN WITH THE SEED: the statements are not yours to turn. If you find one false, say at which input.
  Laid BY PROGRAM, IN A SANDBOX (cutbox-rows.mjs): the forced cells as the released guide's own fill.sh prints them over the translation 9dd30a037e4433bf… (all of the seat's roots in one cut). By AI agents, Wed Nov 11 2026. No macro, syntax, notation, axiom, sorry.
-/
import Derived.Test.Qxb6604372aChecked
import GoSem.Claim
import GoSem.ClaimJoined
import GoSem.ClaimMapViews
import Derived.JoinedTies
import Derived.KernelRfl
namespace Go.Proofs.Qxb6604372a
/- THE CELL 'sum', in the pinned program and in every row, IS THE sha256 OF THE DUMP (.gsa) THAT Qxb6604372aProg.lean LOADS. Nothing in Lean hashes anything: it is a label: what it is worth is what the hold of that sum in a sandbox is worth. -/
noncomputable def Try.pinned : Pinned := { name := "qxb6604372a", sum := "9dd30a037e4433bf7ba6b74013e81c6c0e3259067229204602b10c83025f762e", checked := Try.checked }
namespace Rows
def none {H : Type} : Left H := { results := [], args := [] }

/-- 'zzlaws_internal_audit_b1.FnCohortIsOneFreshCohortPerKey': WHATEVER THE INPUT: true; the input reads as it did. -/
def fnCohortIsOneFreshCohortPerKeySpec : ChangeSpec := { name := "fnCohortIsOneFreshCohortPerKey", fn := fun _ => fun
  | [d] => { results := [.lit (.bool true)], args := [d] }
  | _ => none }
def fnCohortIsOneFreshCohortPerKeyRow : OpenClaim := { program := "qxb6604372a", sum := "9dd30a037e4433bf7ba6b74013e81c6c0e3259067229204602b10c83025f762e", func := "example.com/firmcommit/firmcommit/zzlaws_internal_audit_b1.FnCohortIsOneFreshCohortPerKey", spec := "fnCohortIsOneFreshCohortPerKey", plainKeys := false, apart := false }
def FnCohortIsOneFreshCohortPerKeySaid : Prop := fnCohortIsOneFreshCohortPerKeyRow.holds Try.pinned (OpenSpec.ofChange fnCohortIsOneFreshCohortPerKeySpec)

/-- ITS FALSE NEIGHBOUR: 'it returns false'. Refute it at one input. -/
def fnCohortIsOneFreshCohortPerKeyWrong : ChangeSpec := { name := "fnCohortIsOneFreshCohortPerKey", fn := fun _ => fun
  | [d] => { results := [.lit (.bool false)], args := [d] }
  | _ => none }
def FnCohortIsOneFreshCohortPerKeyWrongFalsely : Prop := fnCohortIsOneFreshCohortPerKeyRow.holds Try.pinned (OpenSpec.ofChange fnCohortIsOneFreshCohortPerKeyWrong)

/-- 'zzlaws_internal_audit_b1.FnCohortAfterAccessesListsThem': WHATEVER THE INPUT: true; the input reads as it did. -/
def fnCohortAfterAccessesListsThemSpec : ChangeSpec := { name := "fnCohortAfterAccessesListsThem", fn := fun _ => fun
  | [d1, d2] => { results := [.lit (.bool true)], args := [d1, d2] }
  | _ => none }
def fnCohortAfterAccessesListsThemRow : OpenClaim := { program := "qxb6604372a", sum := "9dd30a037e4433bf7ba6b74013e81c6c0e3259067229204602b10c83025f762e", func := "example.com/firmcommit/firmcommit/zzlaws_internal_audit_b1.FnCohortAfterAccessesListsThem", spec := "fnCohortAfterAccessesListsThem", unfollowed := true, recurses := true, plainKeys := false, apart := false }
def FnCohortAfterAccessesListsThemSaid : Prop := fnCohortAfterAccessesListsThemRow.holds Try.pinned (OpenSpec.ofChange fnCohortAfterAccessesListsThemSpec)

/-- ITS FALSE NEIGHBOUR: 'it returns false'. Refute it at one input. -/
def fnCohortAfterAccessesListsThemWrong : ChangeSpec := { name := "fnCohortAfterAccessesListsThem", fn := fun _ => fun
  | [d1, d2] => { results := [.lit (.bool false)], args := [d1, d2] }
  | _ => none }
def FnCohortAfterAccessesListsThemWrongFalsely : Prop := fnCohortAfterAccessesListsThemRow.holds Try.pinned (OpenSpec.ofChange fnCohortAfterAccessesListsThemWrong)

/-- 'zzlaws_internal_audit_b1.FnAccessScriptMatchesHistoryModel': WHATEVER THE INPUT: true; the input reads as it did. -/
def fnAccessScriptMatchesHistoryModelSpec : ChangeSpec := { name := "fnAccessScriptMatchesHistoryModel", fn := fun _ => fun
  | [d] => { results := [.lit (.bool true)], args := [d] }
  | _ => none }
def fnAccessScriptMatchesHistoryModelRow : OpenClaim := { program := "qxb6604372a", sum := "9dd30a037e4433bf7ba6b74013e81c6c0e3259067229204602b10c83025f762e", func := "example.com/firmcommit/firmcommit/zzlaws_internal_audit_b1.FnAccessScriptMatchesHistoryModel", spec := "fnAccessScriptMatchesHistoryModel", unfollowed := true, recurses := true, plainKeys := false, apart := false }
def FnAccessScriptMatchesHistoryModelSaid : Prop := fnAccessScriptMatchesHistoryModelRow.holds Try.pinned (OpenSpec.ofChange fnAccessScriptMatchesHistoryModelSpec)

/-- ITS FALSE NEIGHBOUR: 'it returns false'. Refute it at one input. -/
def fnAccessScriptMatchesHistoryModelWrong : ChangeSpec := { name := "fnAccessScriptMatchesHistoryModel", fn := fun _ => fun
  | [d] => { results := [.lit (.bool false)], args := [d] }
  | _ => none }
def FnAccessScriptMatchesHistoryModelWrongFalsely : Prop := fnAccessScriptMatchesHistoryModelRow.holds Try.pinned (OpenSpec.ofChange fnAccessScriptMatchesHistoryModelWrong)

/-- 'zzlaws_internal_audit_b1.FnAccessReleaseScriptMatchesHeldModel': WHATEVER THE INPUT: true; the input reads as it did. -/
def fnAccessReleaseScriptMatchesHeldModelSpec : ChangeSpec := { name := "fnAccessReleaseScriptMatchesHeldModel", fn := fun _ => fun
  | [d] => { results := [.lit (.bool true)], args := [d] }
  | _ => none }
def fnAccessReleaseScriptMatchesHeldModelRow : OpenClaim := { program := "qxb6604372a", sum := "9dd30a037e4433bf7ba6b74013e81c6c0e3259067229204602b10c83025f762e", func := "example.com/firmcommit/firmcommit/zzlaws_internal_audit_b1.FnAccessReleaseScriptMatchesHeldModel", spec := "fnAccessReleaseScriptMatchesHeldModel", unfollowed := true, recurses := true, plainKeys := false, apart := false }
def FnAccessReleaseScriptMatchesHeldModelSaid : Prop := fnAccessReleaseScriptMatchesHeldModelRow.holds Try.pinned (OpenSpec.ofChange fnAccessReleaseScriptMatchesHeldModelSpec)

/-- ITS FALSE NEIGHBOUR: 'it returns false'. Refute it at one input. -/
def fnAccessReleaseScriptMatchesHeldModelWrong : ChangeSpec := { name := "fnAccessReleaseScriptMatchesHeldModel", fn := fun _ => fun
  | [d] => { results := [.lit (.bool false)], args := [d] }
  | _ => none }
def FnAccessReleaseScriptMatchesHeldModelWrongFalsely : Prop := fnAccessReleaseScriptMatchesHeldModelRow.holds Try.pinned (OpenSpec.ofChange fnAccessReleaseScriptMatchesHeldModelWrong)

/-- 'zzlaws_internal_audit_b1.FnReleaseDropsOnlyThatLockAndIsIdempotent': WHATEVER THE INPUT: true; the input reads as it did. -/
def fnReleaseDropsOnlyThatLockAndIsIdempotentSpec : ChangeSpec := { name := "fnReleaseDropsOnlyThatLockAndIsIdempotent", fn := fun _ => fun
  | [d1, d2] => { results := [.lit (.bool true)], args := [d1, d2] }
  | _ => none }
def fnReleaseDropsOnlyThatLockAndIsIdempotentRow : OpenClaim := { program := "qxb6604372a", sum := "9dd30a037e4433bf7ba6b74013e81c6c0e3259067229204602b10c83025f762e", func := "example.com/firmcommit/firmcommit/zzlaws_internal_audit_b1.FnReleaseDropsOnlyThatLockAndIsIdempotent", spec := "fnReleaseDropsOnlyThatLockAndIsIdempotent", unfollowed := true, recurses := true, plainKeys := false, apart := false }
def FnReleaseDropsOnlyThatLockAndIsIdempotentSaid : Prop := fnReleaseDropsOnlyThatLockAndIsIdempotentRow.holds Try.pinned (OpenSpec.ofChange fnReleaseDropsOnlyThatLockAndIsIdempotentSpec)

/-- ITS FALSE NEIGHBOUR: 'it returns false'. Refute it at one input. -/
def fnReleaseDropsOnlyThatLockAndIsIdempotentWrong : ChangeSpec := { name := "fnReleaseDropsOnlyThatLockAndIsIdempotent", fn := fun _ => fun
  | [d1, d2] => { results := [.lit (.bool false)], args := [d1, d2] }
  | _ => none }
def FnReleaseDropsOnlyThatLockAndIsIdempotentWrongFalsely : Prop := fnReleaseDropsOnlyThatLockAndIsIdempotentRow.holds Try.pinned (OpenSpec.ofChange fnReleaseDropsOnlyThatLockAndIsIdempotentWrong)

end Rows
end Go.Proofs.Qxb6604372a
