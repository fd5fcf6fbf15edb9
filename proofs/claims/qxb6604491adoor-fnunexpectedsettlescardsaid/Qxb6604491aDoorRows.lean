/-
  NARROWER THAN 'FOR EVERY INPUT', by the rows' own cells (each row's printed sentence says how): FnUnexpectedSettles: laid.
  DERIVED. THE GIVEN ROWS OF THIS SEAT. 1 by the template 'for every input the law returns true; each argument reads behind the call as it read before'; 0 by the template 'total and deterministic' (their statements: Qxb6604491aDoorTotals.lean).
  GIVEN WITH THE SEED: the statements are not yours to turn. If you find one false, say at which input.
  Laid BY PROGRAM, IN A SANDBOX (cutbox-rows.mjs): the forced cells as the released guide's own fill.sh prints them over the translation ec0c438cb8d26f81… (all of the seat's roots in one cut). By AI agents, Wed Nov 11 2026. No macro, syntax, notation, axiom, sorry.
-/
import Derived.Test.Qxb6604491aDoorChecked
import GoSem.Claim
import GoSem.ClaimJoined
import GoSem.ClaimMapViews
import Derived.JoinedTies
import Derived.KernelRfl
namespace Go.Proofs.Qxb6604491aDoor
/- THE CELL 'sum', in the pinned program and in every row, IS THE sha256 OF THE DUMP (.gsa) THAT Qxb6604491aDoorProg.lean LOADS. Nothing in Lean hashes anything: it is a label: what it is worth is what the hold of that sum in a sandbox is worth. -/
noncomputable def Tryd.pinned : Pinned := { name := "qxb6604491adoor", sum := "ec0c438cb8d26f81f3e490b5b9fcbd3dd3b5be48c02d1aa8ab32aabfbe0ddbb6", checked := Tryd.checked }
namespace Rows
def none {H : Type} : Left H := { results := [], args := [] }

/- WHAT THE LISTED PACKAGE-LEVEL VARIABLES READ AS WHEN THE CALL BEGINS. Each datum BY PROGRAM (the guide's laid-datum.mjs) off the statement by which the dump's own 'gosem.cut.vars' lays the variable. In a bare row this is a premise. The card (Qxb6604491aDoorCards.lean) ties it to the program's text. -/
def laid_io_EOF {H : Type} : DataW H := .iface "*errors.errorString" (.ptr (.agg [.lit (.string [69, 79, 70])]))
def laid_io_ErrUnexpectedEOF {H : Type} : DataW H := .iface "*errors.errorString" (.ptr (.agg [.lit (.string [117, 110, 101, 120, 112, 101, 99, 116, 101, 100, 32, 69, 79, 70])]))

/-- 'zzlaws_internal_resp_b1.FnUnexpectedSettles': WHATEVER THE INPUT: true; the input reads as it did. -/
def fnUnexpectedSettlesSpec : ChangeSpec := { name := "fnUnexpectedSettles", fn := fun _ => fun
  | [d] => { results := [.lit (.bool true)], args := [d] }
  | _ => none }
def fnUnexpectedSettlesRow : OpenClaim := { program := "qxb6604491adoor", sum := "ec0c438cb8d26f81f3e490b5b9fcbd3dd3b5be48c02d1aa8ab32aabfbe0ddbb6", func := "example.com/caduceus/caduceus/zzlaws_internal_resp_b1.FnUnexpectedSettles", spec := "fnUnexpectedSettles", named := ["io.EOF", "io.ErrUnexpectedEOF"], apart := false, laid := [("io.EOF", laid_io_EOF), ("io.ErrUnexpectedEOF", laid_io_ErrUnexpectedEOF)] }
def FnUnexpectedSettlesSaid : Prop := fnUnexpectedSettlesRow.holds Tryd.pinned (OpenSpec.ofChange fnUnexpectedSettlesSpec)

/-- ITS FALSE NEIGHBOUR: 'it returns false'. Refute it at one input. -/
def fnUnexpectedSettlesWrong : ChangeSpec := { name := "fnUnexpectedSettles", fn := fun _ => fun
  | [d] => { results := [.lit (.bool false)], args := [d] }
  | _ => none }
def FnUnexpectedSettlesWrongFalsely : Prop := fnUnexpectedSettlesRow.holds Tryd.pinned (OpenSpec.ofChange fnUnexpectedSettlesWrong)

end Rows
end Go.Proofs.Qxb6604491aDoor
