/-
  FnCohortAfterAccessesListsThem: more than 1024 accesses; the walk whole.
-/
import Derived.Test.Qxb6604372aLaw4
namespace Go.Proofs.Qxb6604372a
open Go.ChangeShapes Go.WideShapes Go.ChangeAt Go.RowKit
set_option maxRecDepth 100000 in
theorem law4_big (a : Option Addr) (len cap : Nat) (t n st : Int) (w : World) (hl : len ≤ maxLen) (hb : 1024 < len) :
    Calls Try.prog 4 #[.slice a len cap, .agg #[.int .i64 t, .int .i64 n, .int .i64 st]] w fun e w' => e = .returned (.bool true) ∧ Below w.heap.size w w' := by
  have hl' := hl
  unfold maxLen at hl'
  have hb0 : Below w.heap.size w (w.alloc (.cells #[.int .i64 t, .int .i64 n, .int .i64 st] 29)) := (Below.refl _ _).alloc (Nat.le_refl _) _
  have HB0 : Hid (Below w.heap.size w (w.alloc (.cells #[.int .i64 t, .int .i64 n, .int .i64 st] 29))) := hb0
  clear hb0
  by_cases h : len ≤ 1048576
  · have hdd : decide (len ≤ 1048576) = true := by simpa using h
    go_enter Try.func4, Try.ntmps4
    go_wp2_with fail
    refine (zzBytes20 a len cap _ _ _ _ hl).mono ?_
    rintro r w1 ⟨rfl, hb1⟩
    rw [hdd]
    go_wp2
    go_ret
    exact ⟨rfl, HB0.out.trans (hb1.mono HB0.out.size)⟩
  · have hdd : decide (len ≤ 1048576) = false := by simpa using h
    go_enter Try.func4, Try.ntmps4
    go_wp2_with fail
    refine (zzBytes20 a len cap _ _ _ _ hl).mono ?_
    rintro r w1 ⟨rfl, hb1⟩
    rw [hdd]
    go_wp2
    go_ret
    exact ⟨rfl, HB0.out.trans (hb1.mono HB0.out.size)⟩
theorem law4_walk (a : Option Addr) (len cap : Nat) (evs : List Ev) (t n st : Int) (w : World) (h : ElemsAt 8 evCells w a len evs) (hl : len ≤ maxLen) :
    Calls Try.prog 4 #[.slice a len cap, .agg #[.int .i64 t, .int .i64 n, .int .i64 st]] w fun e w' => e = .returned (.bool true) ∧ Below w.heap.size w w' := by
  by_cases h1 : 1024 < len
  · exact law4_big a len cap t n st w hl h1
  · exact law4_small a len cap evs t n st w h (by omega)
end Go.Proofs.Qxb6604372a
