/-
  The reading of a slice of steps.
-/
import Derived.Test.Qxb6604372aOpen
import Derived.Test.Qxb6604372aOps
namespace Go.Proofs.Qxb6604372a
open Go.ChangeShapes Go.WideShapes Go.ChangeAt Go.RowKit
section
variable {H : Type} {enc : TypeId × Value → H} {w : World} {base : Nat} {spare : Nat → Bool} {held : Bool}
theorem cells53 : Try.prog.cellsOf 53 = 10 := by kernel_rfl
theorem read53 (cs : List Value) (n : Nat) (y : DataW H × List MemPlace) (h : DataW.trod enc Try.prog w base spare held n 53 cs = some y) : ∃ q, opCells q = cs := by
  obtain ⟨a0, h0⟩ := field_bool Try.underlying53 h 0 0 rfl
  obtain ⟨a1, h1⟩ := field_int Try.underlying53 h 1 1 rfl
  obtain ⟨a2, h2⟩ := field_int Try.underlying53 h 2 2 rfl
  obtain ⟨a3, h3⟩ := field_int Try.underlying53 h 3 3 rfl
  obtain ⟨a4, h4⟩ := field_int Try.underlying53 h 4 4 rfl
  obtain ⟨a5, h5⟩ := field_int Try.underlying53 h 5 5 rfl
  obtain ⟨a6, h6⟩ := field_bool Try.underlying53 h 6 6 rfl
  obtain ⟨a7, h7⟩ := field_bool Try.underlying53 h 7 7 rfl
  obtain ⟨a8, h8⟩ := field_int Try.underlying53 h 8 8 rfl
  obtain ⟨a9, h9⟩ := field_int Try.underlying53 h 9 9 rfl
  have hl := struct_len Try.underlying53 h
  rw [cells53] at hl
  refine ⟨⟨a0, a1, ⟨a2, a3, a4, a5, a6, a7, a8, a9⟩⟩, ?_⟩
  match cs, hl with
  | [x0, x1, x2, x3, x4, x5, x6, x7, x8, x9], _ =>
    simp at h0 h1 h2 h3 h4 h5 h6 h7 h8 h9
    simp [opCells, evCells, h0, h1, h2, h3, h4, h5, h6, h7, h8, h9]
end
end Go.Proofs.Qxb6604372a
