/-
  FnAccessReleaseScriptMatchesHeldModel: more than 1024 steps; the walk whole.
-/
import Derived.Test.Qxb6604372aLaw6
namespace Go.Proofs.Qxb6604372a
open Go.ChangeShapes Go.WideShapes Go.ChangeAt Go.RowKit
set_option maxRecDepth 100000 in
theorem law6_big (a : Option Addr) (len cap : Nat) (w : World) (hl : len ≤ maxLen) (hb : 1024 < len) :
    Calls Try.prog 6 #[.slice a len cap] w fun e w' => e = .returned (.bool true) ∧ Below w.heap.size w w' := by
  have hl' := hl
  unfold maxLen at hl'
  by_cases h : len ≤ 1048576
  · have hdd : decide (len ≤ 1048576) = true := by simpa using h
    go_enter Try.func6, Try.ntmps6
    go_wp2_with fail
    refine (zzBytes26 a len cap _ hl).mono ?_
    rintro r w1 ⟨rfl, rfl⟩
    rw [hdd]
    go_wp2
    go_ret
    exact ⟨rfl, Below.refl _ _⟩
  · have hdd : decide (len ≤ 1048576) = false := by simpa using h
    go_enter Try.func6, Try.ntmps6
    go_wp2_with fail
    refine (zzBytes26 a len cap _ hl).mono ?_
    rintro r w1 ⟨rfl, rfl⟩
    rw [hdd]
    go_wp2
    go_ret
    exact ⟨rfl, Below.refl _ _⟩
theorem law6_walk (a : Option Addr) (len cap : Nat) (ops : List OpE) (w : World) (h : ElemsAt 10 opCells w a len ops) (hl : len ≤ maxLen) :
    Calls Try.prog 6 #[.slice a len cap] w fun e w' => e = .returned (.bool true) ∧ Below w.heap.size w w' := by
  by_cases h1 : 1024 < len
  · exact law6_big a len cap w hl h1
  · exact law6_small a len cap ops w h (by omega)
end Go.Proofs.Qxb6604372a
