/-
  No cell of these rows narrows 'for every input' (looked for: loops, veiled, ifaces, maps, wideKeys, modest, calm, conditions, laid).
  DERIVED. THE GIVEN ROWS OF THIS SEAT. 2 by the template 'for every input the law returns true; each argument reads behind the call as it read before'; 0 by the template 'total and deterministic' (their statements: Qxb6604491aTotals.lean).
  GIVEN WITH THE SEED: the statements are not yours to turn. If you find one false, say at which input.
  Laid BY PROGRAM, IN A SANDBOX (cutbox-rows.mjs): the forced cells as the released guide's own fill.sh prints them over the translation 77e1233d86c21c2d… (all of the seat's roots in one cut). By AI agents, Wed Nov 11 2026. No macro, syntax, notation, axiom, sorry.
-/
import Derived.Test.Qxb6604491aChecked
import GoSem.Claim
import GoSem.ClaimJoined
import GoSem.ClaimMapViews
import Derived.JoinedTies
import Derived.KernelRfl
namespace Go.Proofs.Qxb6604491a
/- THE CELL 'sum', in the pinned program and in every row, IS THE sha256 OF THE DUMP (.gsa) THAT Qxb6604491aProg.lean LOADS. Nothing in Lean hashes anything: it is a label: what it is worth is what the hold of that sum in a sandbox is worth. -/
noncomputable def Try.pinned : Pinned := { name := "qxb6604491a", sum := "77e1233d86c21c2db1eddfc16882b4e46b1f2a2d0fa818076611ec98a5ad2453", checked := Try.checked }
namespace Rows
def none {H : Type} : Left H := { results := [], args := [] }

/-- 'zzlaws_internal_resp_b1.FnParseLengthModel': WHATEVER THE INPUT: true; the input reads as it did. -/
def fnParseLengthModelSpec : ChangeSpec := { name := "fnParseLengthModel", fn := fun _ => fun
  | [d1, d2] => { results := [.lit (.bool true)], args := [d1, d2] }
  | _ => none }
def fnParseLengthModelRow : OpenClaim := { program := "qxb6604491a", sum := "77e1233d86c21c2db1eddfc16882b4e46b1f2a2d0fa818076611ec98a5ad2453", func := "example.com/caduceus/caduceus/zzlaws_internal_resp_b1.FnParseLengthModel", spec := "fnParseLengthModel", apart := false }
def FnParseLengthModelSaid : Prop := fnParseLengthModelRow.holds Try.pinned (OpenSpec.ofChange fnParseLengthModelSpec)

/-- ITS FALSE NEIGHBOUR: 'it returns false'. Refute it at one input. -/
def fnParseLengthModelWrong : ChangeSpec := { name := "fnParseLengthModel", fn := fun _ => fun
  | [d1, d2] => { results := [.lit (.bool false)], args := [d1, d2] }
  | _ => none }
def FnParseLengthModelWrongFalsely : Prop := fnParseLengthModelRow.holds Try.pinned (OpenSpec.ofChange fnParseLengthModelWrong)

/-- 'zzlaws_internal_resp_b1.FnParseLengthRoundTrip': WHATEVER THE INPUT: true; the input reads as it did. -/
def fnParseLengthRoundTripSpec : ChangeSpec := { name := "fnParseLengthRoundTrip", fn := fun _ => fun
  | [d1, d2] => { results := [.lit (.bool true)], args := [d1, d2] }
  | _ => none }
def fnParseLengthRoundTripRow : OpenClaim := { program := "qxb6604491a", sum := "77e1233d86c21c2db1eddfc16882b4e46b1f2a2d0fa818076611ec98a5ad2453", func := "example.com/caduceus/caduceus/zzlaws_internal_resp_b1.FnParseLengthRoundTrip", spec := "fnParseLengthRoundTrip", apart := false }
def FnParseLengthRoundTripSaid : Prop := fnParseLengthRoundTripRow.holds Try.pinned (OpenSpec.ofChange fnParseLengthRoundTripSpec)

/-- ITS FALSE NEIGHBOUR: 'it returns false'. Refute it at one input. -/
def fnParseLengthRoundTripWrong : ChangeSpec := { name := "fnParseLengthRoundTrip", fn := fun _ => fun
  | [d1, d2] => { results := [.lit (.bool false)], args := [d1, d2] }
  | _ => none }
def FnParseLengthRoundTripWrongFalsely : Prop := fnParseLengthRoundTripRow.holds Try.pinned (OpenSpec.ofChange fnParseLengthRoundTripWrong)

end Rows
end Go.Proofs.Qxb6604491a
