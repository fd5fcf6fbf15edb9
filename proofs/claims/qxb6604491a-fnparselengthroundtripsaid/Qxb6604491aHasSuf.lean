/-
  DERIVED: LAID BY THE SHELF's contract.sh OFF ITS TEMPLATE 'bytes.HasSuffix' FOR THE PROGRAM 'Try' (the function's number there: 11). THE LIBRARY's OWN TEXT IS WALKED: nothing is assumed of it. Behind the contract: ONE FALSE NEIGHBOUR, a contract that says a little too much, REFUTED. (The template: the authors', as it stood still under unfinished/; brought through by the authors, Sun: both AI agents.)
-/
import Derived.Test.Qxb6604491aChecked
import Derived.Lib.Strings
import Derived.Lib.Slices
import Derived.Lib.Walk
import Derived.Lib.Bytes
import Derived.Test.Qxb6604491aEqual
namespace Go.Proofs

set_option maxHeartbeats 2000000 in
/-- bytes.HasSuffix: "HasSuffix reports whether the byte slice s ends with suffix.": IT RETURNS 'Lib.hasSuffix (the bytes of s) (the bytes of suffix)'; the world is as it was. ITS CALLEE bytes.Equal IS MET BY ITS OWN CONTRACT OFF THE SHELF (lay that first). (An empty suffix too: there the model's slicing may keep the slice's address, where the cut falls at its very capacity: the value bears an 'if': 'gA' pays both arms.) -/
theorem Try.bytes_HasSuffix (b1 o1 n c b2 o2 m d : Nat) (xs ys : List Int) (w : World) (hx : xs.length = n) (hy : ys.length = m) (hnc : n ≤ c) (hbig : n ≤ 9223372036854775807)
    (hc1 : ∀ i, i < n → w.cell? ⟨b1, o1 + i, none⟩ = some (.int .u8 (xs.getD i 0))) (hc2 : ∀ i, i < m → w.cell? ⟨b2, o2 + i, none⟩ = some (.int .u8 (ys.getD i 0))) :
    Calls Try.prog 11 #[.slice (some ⟨b1, o1, none⟩) n c, .slice (some ⟨b2, o2, none⟩) m d] w fun e w' => e = .returned (.bool (Lib.hasSuffix (Lib.bytesOf xs) (Lib.bytesOf ys))) ∧ w' = w := by
  rw [← Lib.bytes_hasSuffix, hx, hy]
  have hlo : m ≤ n → ((n : Int) - (m : Int) + 9223372036854775808) % 18446744073709551616 - 9223372036854775808 = ((n - m : Nat) : Int) := fun _ => by omega
  have g2 := run_convert_bytes_arg (P := Try.prog) w 22 5 Try.underlying22 Try.underlying5 b2 o2 m d ys hy hc2 9 Try.underlying9
  have gA : m ≤ n → (convert 22 9 (.slice (if c = n - m then some ⟨b1, o1, none⟩ else some ⟨b1, o1 + (n - m), none⟩) (n - (n - m)) (c - (n - m)))).run Try.prog w = .ok (.string (strOfNums (xs.drop (n - m)))) w := fun h => by
    split
    · have e1 : n - (n - m) = 0 := by omega
      have e2 : xs.drop (n - m) = [] := List.drop_eq_nil_of_le (by omega)
      rw [e1, e2]
      exact run_convert_bytes_arg (P := Try.prog) w 22 5 Try.underlying22 Try.underlying5 b1 o1 0 _ [] rfl (fun i hi => absurd hi (Nat.not_lt_zero _)) 9 Try.underlying9
    · exact run_convert_bytes_arg (P := Try.prog) w 22 5 Try.underlying22 Try.underlying5 b1 (o1 + (n - m)) (n - (n - m)) _ (xs.drop (n - m)) (by simp; omega) (fun i hi => by
        rw [Lib.getD_drop, Nat.add_assoc]
        exact hc1 (n - m + i) (by omega)) 9 Try.underlying9
  go_enter Try.func11, Try.ntmps11
  go_wp2_with (go_at_call 12; refine (Try.bytes_Equal _ _ (xs.drop (n - m)) ys _ (gA (by assumption)) g2).mono ?_; rintro e w' ⟨rfl, rfl⟩)
  all_goals first
    | (have h : m ≤ n := by assumption
       go_ret
       refine ⟨?_, rfl⟩
       first | rfl | (rw [decide_eq_true h, Bool.true_and]; rfl))
    | (have h : ¬ m ≤ n := by assumption
       go_ret
       refine ⟨?_, rfl⟩
       first | rfl | (rw [decide_eq_false h, Bool.false_and]; rfl))

/-- A LITTLE TOO MUCH: 'true wherever suffix is not longer than s': falls at [7, 8], [7]. -/
theorem Try.bytes_HasSuffix_not : ¬ ∀ (b1 o1 n c b2 o2 m d : Nat) (xs ys : List Int) (w : World), xs.length = n → ys.length = m → n ≤ c → n ≤ 9223372036854775807 →
    (∀ i, i < n → w.cell? ⟨b1, o1 + i, none⟩ = some (.int .u8 (xs.getD i 0))) → (∀ i, i < m → w.cell? ⟨b2, o2 + i, none⟩ = some (.int .u8 (ys.getD i 0))) →
    Calls Try.prog 11 #[.slice (some ⟨b1, o1, none⟩) n c, .slice (some ⟨b2, o2, none⟩) m d] w fun e w' => e = .returned (.bool (decide (m ≤ n))) ∧ w' = w := by
  intro h
  let w : World := (default : World).alloc (.cells #[.int .u8 7, .int .u8 8] 5)
  have hc1 : ∀ i, i < 2 → w.cell? ⟨0, 0 + i, none⟩ = some (.int .u8 ([(7 : Int), 8].getD i 0)) := by
    intro i hi
    have : i = 0 ∨ i = 1 := by omega
    rcases this with rfl | rfl <;> rfl
  have hc2 : ∀ i, i < 1 → w.cell? ⟨0, 0 + i, none⟩ = some (.int .u8 ([(7 : Int)].getD i 0)) := by
    intro i hi
    have : i = 0 := by omega
    subst this
    rfl
  have e := Lib.agree (by kernel_rfl) (Try.bytes_HasSuffix 0 0 2 2 0 0 1 1 [7, 8] [7] w rfl rfl (by decide) (by decide) hc1 hc2) (h 0 0 2 2 0 0 1 1 [7, 8] [7] w rfl rfl (by decide) (by decide) hc1 hc2)
  injection e with e
  revert e
  decide

end Go.Proofs
