/-
  FnAccessScriptMatchesHistoryModel: more than 1024 accesses; the walk whole.
-/
import Derived.Test.Qxb6604372aLaw5
namespace Go.Proofs.Qxb6604372a
open Go.ChangeShapes Go.WideShapes Go.ChangeAt Go.RowKit
set_option maxRecDepth 100000 in
theorem law5_big (a : Option Addr) (len cap : Nat) (w : World) (hl : len ≤ maxLen) (hb : 1024 < len) :
    Calls Try.prog 5 #[.slice a len cap] w fun e w' => e = .returned (.bool true) ∧ Below w.heap.size w w' := by
  have hl' := hl
  unfold maxLen at hl'
  by_cases h : len ≤ 1048576
  · have hdd : decide (len ≤ 1048576) = true := by simpa using h
    go_enter Try.func5, Try.ntmps5
    go_wp2_with fail
    refine (zzBytes24 a len cap _ hl).mono ?_
    rintro r w1 ⟨rfl, rfl⟩
    rw [hdd]
    go_wp2
    go_ret
    exact ⟨rfl, Below.refl _ _⟩
  · have hdd : decide (len ≤ 1048576) = false := by simpa using h
    go_enter Try.func5, Try.ntmps5
    go_wp2_with fail
    refine (zzBytes24 a len cap _ hl).mono ?_
    rintro r w1 ⟨rfl, rfl⟩
    rw [hdd]
    go_wp2
    go_ret
    exact ⟨rfl, Below.refl _ _⟩
theorem law5_walk (a : Option Addr) (len cap : Nat) (evs : List Ev) (w : World) (h : ElemsAt 8 evCells w a len evs) (hl : len ≤ maxLen) :
    Calls Try.prog 5 #[.slice a len cap] w fun e w' => e = .returned (.bool true) ∧ Below w.heap.size w w' := by
  by_cases h1 : 1024 < len
  · exact law5_big a len cap w hl h1
  · exact law5_small a len cap evs w h (by omega)
end Go.Proofs.Qxb6604372a
