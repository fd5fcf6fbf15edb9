/-
  The reading of a slice of accesses.
-/
import Derived.Test.Qxb6604372aOpen
import Derived.Test.Qxb6604372aPlain
namespace Go.Proofs.Qxb6604372a
open Go.ChangeShapes Go.WideShapes Go.ChangeAt Go.RowKit
section
variable {H : Type} {enc : TypeId × Value → H} {w : World} {base : Nat} {spare : Nat → Bool} {held : Bool}
theorem cells46 : Try.prog.cellsOf 46 = 8 := by kernel_rfl
theorem read46 (cs : List Value) (n : Nat) (y : DataW H × List MemPlace) (h : DataW.trod enc Try.prog w base spare held n 46 cs = some y) : ∃ q, evCells q = cs := by
  obtain ⟨a0, h0⟩ := field_int Try.underlying46 h 0 0 rfl
  obtain ⟨a1, h1⟩ := field_int Try.underlying46 h 1 1 rfl
  obtain ⟨a2, h2⟩ := field_int Try.underlying46 h 2 2 rfl
  obtain ⟨a3, h3⟩ := field_int Try.underlying46 h 3 3 rfl
  obtain ⟨a4, h4⟩ := field_bool Try.underlying46 h 4 4 rfl
  obtain ⟨a5, h5⟩ := field_bool Try.underlying46 h 5 5 rfl
  obtain ⟨a6, h6⟩ := field_int Try.underlying46 h 6 6 rfl
  obtain ⟨a7, h7⟩ := field_int Try.underlying46 h 7 7 rfl
  have hl := struct_len Try.underlying46 h
  rw [cells46] at hl
  refine ⟨⟨a0, a1, a2, a3, a4, a5, a6, a7⟩, ?_⟩
  match cs, hl with
  | [x0, x1, x2, x3, x4, x5, x6, x7], _ =>
    simp at h0 h1 h2 h3 h4 h5 h6 h7
    simp [evCells, h0, h1, h2, h3, h4, h5, h6, h7]
set_option maxRecDepth 100000 in
theorem key_of_trod {r : Reach} {b0 : Nat} {v : Value} {d : DataW H} {p : List MemPlace} (hv : Value.okWide Try.prog w r b0 29 v) (h : DataW.Trod enc Try.prog w base spare held 29 v d p) : ∃ t n st : Int, v = .agg #[.int .i64 t, .int .i64 n, .int .i64 st] := by
  obtain ⟨cs, rfl, hsz⟩ := okWide_struct Try.underlying29 hv
  obtain ⟨fuel, hf⟩ := h
  obtain ⟨q, hq⟩ := read29 _ _ _ hf
  refine ⟨q.1, q.2.1, q.2.2, ?_⟩
  congr 1
  apply Array.ext'
  simpa [Value.cells, keyCells] using hq.symm
end
end Go.Proofs.Qxb6604372a
