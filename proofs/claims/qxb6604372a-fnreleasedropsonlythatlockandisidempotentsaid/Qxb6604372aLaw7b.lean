/-
  FnReleaseDropsOnlyThatLockAndIsIdempotent: the cases that are answered at once; the walk whole.
-/
import Derived.Test.Qxb6604372aLaw7
namespace Go.Proofs.Qxb6604372a
open Go.ChangeShapes Go.WideShapes Go.ChangeAt Go.RowKit
set_option maxRecDepth 100000 in
theorem law7_big (a : Option Addr) (len cap : Nat) (i : Int) (w : World) (hl : len ≤ maxLen) (hb : 1024 < len) :
    Calls Try.prog 7 #[.slice a len cap, .int .i64 i] w fun e w' => e = .returned (.bool true) ∧ Below w.heap.size w w' := by
  have hl' := hl
  unfold maxLen at hl'
  by_cases h : len ≤ 1048576
  · have hdd : decide (len ≤ 1048576) = true := by simpa using h
    go_enter Try.func7, Try.ntmps7
    go_wp2_with fail
    refine (zzBytes30 a len cap _ _ hl).mono ?_
    rintro r w1 ⟨rfl, rfl⟩
    rw [hdd]
    go_wp2
    go_ret
    exact ⟨rfl, Below.refl _ _⟩
  · have hdd : decide (len ≤ 1048576) = false := by simpa using h
    go_enter Try.func7, Try.ntmps7
    go_wp2_with fail
    refine (zzBytes30 a len cap _ _ hl).mono ?_
    rintro r w1 ⟨rfl, rfl⟩
    rw [hdd]
    go_wp2
    go_ret
    exact ⟨rfl, Below.refl _ _⟩
set_option maxRecDepth 100000 in
theorem law7_out (a : Option Addr) (len cap : Nat) (i : Int) (w : World) (hl : len ≤ 1024) (hi : i < 0 ∨ (len : Int) ≤ i) :
    Calls Try.prog 7 #[.slice a len cap, .int .i64 i] w fun e w' => e = .returned (.bool true) ∧ Below w.heap.size w w' := by
  have hd : decide ((1024 : Int) < (len : Int)) = false := by simp; omega
  have hdd : decide (len ≤ 1048576) = true := by simp; omega
  by_cases h0 : i < 0
  · go_enter Try.func7, Try.ntmps7
    go_wp2_with fail
    refine (zzBytes30 a len cap _ _ (by unfold maxLen; omega)).mono ?_
    rintro r w1 ⟨rfl, rfl⟩
    rw [hdd]
    go_wp2
    go_ret
    exact ⟨rfl, Below.refl _ _⟩
  · have h1 : (len : Int) ≤ i := by omega
    have hd1 : decide (i < 0) = false := by simpa using h0
    have hd2 : decide ((len : Int) ≤ i) = true := by simpa using h1
    go_enter Try.func7, Try.ntmps7
    go_wp2_with fail
    refine (zzBytes30 a len cap _ _ (by unfold maxLen; omega)).mono ?_
    rintro r w1 ⟨rfl, rfl⟩
    rw [hdd]
    go_wp2
    go_ret
    exact ⟨rfl, Below.refl _ _⟩
theorem law7_walk (a : Option Addr) (len cap : Nat) (evs : List Ev) (i : Int) (w : World) (h : ElemsAt 8 evCells w a len evs) (hl : len ≤ maxLen) :
    Calls Try.prog 7 #[.slice a len cap, .int .i64 i] w fun e w' => e = .returned (.bool true) ∧ Below w.heap.size w w' := by
  by_cases h1 : 1024 < len
  · exact law7_big a len cap i w hl h1
  by_cases h2 : i < 0 ∨ (len : Int) ≤ i
  · exact law7_out a len cap i w (by omega) h2
  · obtain ⟨n, rfl⟩ := Int.eq_ofNat_of_zero_le (show 0 ≤ i by omega)
    exact law7_small a len cap evs n w h (by omega) (by omega)
end Go.Proofs.Qxb6604372a
