/-
  DERIVED. GIVEN WITH THE SEED: THE CARDS: each row of Qxb6604491aDoorRows.lean that lists a variable, with what it lists TIED to the program's text (the seventh form; the later family's looks); each row that meets fmt, with fmt's text TOLD by the authors' own Lean function (tested against real Go, not proved from fmt's source: count such statements apart). THE CARD IS WHAT COUNTS. Prove the row's statement (the work); the ties are given (Qxb6604491aDoorTie.lean); close each card by the builder's one call (the guide's Derived/Test/ToyasCard.lean, 'card_holds'). Laid BY PROGRAM, IN A SANDBOX (cutbox-door.mjs). By AI agents, Wed Nov 11 2026. No macro, syntax, notation, axiom, sorry.
-/
import Derived.Test.Qxb6604491aDoorRows
import GoSem.ClaimSeven
namespace Go.Proofs.Qxb6604491aDoor
namespace Rows

/-- THE TIED CARD OF 'zzlaws_internal_resp_b1.FnUnexpectedSettles'. -/
def fnUnexpectedSettlesCard : Claim7 := { stood := { row := fnUnexpectedSettlesRow, standIns := [], harness := (true, "a4e72d4bd4644b9b4657cb7d7e308c1e5bde3780254a18829975cb8ccc70f219"), looks := true }, kinds := [], alts := [], laidByText := true, laidKinds := [.sentinel, .sentinel], laidTests := true, laidLooks := .later }
def FnUnexpectedSettlesCardSaid : Prop := Claim7.holds Tryd.pinned (.plain (OpenSpec.ofChange fnUnexpectedSettlesSpec)) fnUnexpectedSettlesCard
end Rows
end Go.Proofs.Qxb6604491aDoor
