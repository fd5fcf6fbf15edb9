/-
  DERIVED: LAID BY THE SHELF's contract.sh OFF ITS TEMPLATE 'bytes.CutSuffix' FOR THE PROGRAM 'Try' (the function's number there: 10). THE LIBRARY's OWN TEXT IS WALKED: nothing is assumed of it; where it calls a function without a Go body (internal/bytealg), THE MODEL's OWN ENTRY stands in, by its law (Derived/Lib/Bytealg.lean). Behind the contract: ONE FALSE NEIGHBOUR, a contract that says a little too much, REFUTED. (The template: the authors, an AI agent; Sun.)
-/
import Derived.Test.Qxb6604491aChecked
import Derived.Lib.Strings
import Derived.Lib.Slices
import Derived.Lib.Walk
import Derived.Lib.Bytes
import Derived.Lib.Bytes2
import Derived.Test.Qxb6604491aHasSuf
namespace Go.Proofs

set_option maxHeartbeats 1000000 in
/-- bytes.CutSuffix: "CutSuffix returns s without the provided ending suffix byte slice and reports whether it found the suffix. If s doesn't end with suffix, CutSuffix returns s, false. If suffix is the empty byte slice, CutSuffix returns s, true.": IT RETURNS ('Lib.bytesTrimSuffix', 'Lib.hasSuffix'): the first a slice OF THE ARGUMENT's OWN MEMORY ("CutSuffix returns slices of the original slice s, not copies."); the world is as it was. -/
theorem Try.bytes_CutSuffix (b1 o1 n c b2 o2 m d : Nat) (xs ys : List Int) (w : World) (hx : xs.length = n) (hy : ys.length = m) (hnc : n ≤ c) (hbig : n ≤ 9223372036854775807)
    (hc1 : ∀ i, i < n → w.cell? ⟨b1, o1 + i, none⟩ = some (.int .u8 (xs.getD i 0))) (hc2 : ∀ i, i < m → w.cell? ⟨b2, o2 + i, none⟩ = some (.int .u8 (ys.getD i 0))) :
    Calls Try.prog 10 #[.slice (some ⟨b1, o1, none⟩) n c, .slice (some ⟨b2, o2, none⟩) m d] w fun e w' => e = .returned (.tuple #[Lib.bytesTrimSuffix b1 o1 n c xs ys, .bool (Lib.hasSuffix (Lib.bytesOf xs) (Lib.bytesOf ys))]) ∧ w' = w := by
  have hlo : m ≤ n → ((n : Int) - (m : Int) + 9223372036854775808) % 18446744073709551616 - 9223372036854775808 = ((n - m : Nat) : Int) := fun _ => by omega
  go_enter Try.func10, Try.ntmps10
  go_wp2_with (go_at_call 11; refine (Try.bytes_HasSuffix b1 o1 n c b2 o2 m d xs ys _ hx hy hnc hbig hc1 hc2).mono ?_; rintro e w' ⟨rfl, rfl⟩)
  all_goals first
    | (have hp : Lib.hasSuffix (Lib.bytesOf xs) (Lib.bytesOf ys) = true := by first | assumption | simpa using (by assumption : (!Lib.hasSuffix (Lib.bytesOf xs) (Lib.bytesOf ys)) = false)
       have hle := Lib.hasSuffix_le hp
       rw [Lib.bytesOf_length, Lib.bytesOf_length, hx, hy] at hle
       first
         | (exfalso; omega)
         | (go_ret2
            refine ⟨?_, rfl⟩
            simp only [Lib.bytesTrimSuffix, hp, if_true, Lib.sliceTo, hy]
            first | rfl | (simp [*])))
    | (have hp : Lib.hasSuffix (Lib.bytesOf xs) (Lib.bytesOf ys) = false := by first | assumption | simpa using (by assumption : (!Lib.hasSuffix (Lib.bytesOf xs) (Lib.bytesOf ys)) = true)
       go_ret2
       refine ⟨?_, rfl⟩
       simp only [Lib.bytesTrimSuffix, hp, Bool.false_eq_true, if_false]
       rfl)

/-- A LITTLE TOO MUCH: 'it always finds the suffix': falls at [7, 8], [7]. -/
theorem Try.bytes_CutSuffix_not : ¬ ∀ (b1 o1 n c b2 o2 m d : Nat) (xs ys : List Int) (w : World), xs.length = n → ys.length = m → n ≤ c → n ≤ 9223372036854775807 →
    (∀ i, i < n → w.cell? ⟨b1, o1 + i, none⟩ = some (.int .u8 (xs.getD i 0))) → (∀ i, i < m → w.cell? ⟨b2, o2 + i, none⟩ = some (.int .u8 (ys.getD i 0))) →
    Calls Try.prog 10 #[.slice (some ⟨b1, o1, none⟩) n c, .slice (some ⟨b2, o2, none⟩) m d] w fun e w' => e = .returned (.tuple #[Lib.bytesTrimSuffix b1 o1 n c xs ys, .bool true]) ∧ w' = w := by
  intro h
  let w : World := (default : World).alloc (.cells #[.int .u8 7, .int .u8 8] 5)
  have hc1 : ∀ i, i < 2 → w.cell? ⟨0, 0 + i, none⟩ = some (.int .u8 ([(7 : Int), 8].getD i 0)) := by
    intro i hi
    have : i = 0 ∨ i = 1 := by omega
    rcases this with rfl | rfl <;> rfl
  have hc2 : ∀ i, i < 1 → w.cell? ⟨0, 0 + i, none⟩ = some (.int .u8 ([(7 : Int)].getD i 0)) := by
    intro i hi
    have : i = 0 := by omega
    subst this
    rfl
  have e := Lib.agree (by kernel_rfl) (Try.bytes_CutSuffix 0 0 2 2 0 0 1 1 [7, 8] [7] w rfl rfl (by decide) (by decide) hc1 hc2) (h 0 0 2 2 0 0 1 1 [7, 8] [7] w rfl rfl (by decide) (by decide) hc1 hc2)
  have e2 := congrArg (fun v : Value => match v with | .tuple a => (match (a[1]? : Option Value) with | some (Value.bool y) => y | _ => false) | _ => false) e
  revert e2
  decide

end Go.Proofs
