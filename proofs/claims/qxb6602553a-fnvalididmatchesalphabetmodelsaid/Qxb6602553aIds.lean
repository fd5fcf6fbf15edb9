/-
  The letters of an id: lawInIDAlphabet, isIDByte, ValidID.
-/
import Derived.Test.Qxb6602553aRows
import Derived.WalkKit
import Derived.ProofKit
import Derived.OpenShut
import Derived.ShutString
import Derived.Lib.ConvBytes
namespace Go.Proofs.Qxb6602553a
open Go.ChangeShapes Go.WideShapes Go.ChangeAt Go.RowKit

def isId (c : Int) : Bool := decide (97 ≤ c) && decide (c ≤ 122) || decide (65 ≤ c) && decide (c ≤ 90) || decide (48 ≤ c) && decide (c ≤ 57) || c == 46 || c == 95 || c == 45
theorem ret_eq {a b : Bool} (h : a = true ↔ b = true) : Ending.returned (.bool a) = Ending.returned (.bool b) := by rw [Bool.eq_iff_iff.2 h]
set_option maxRecDepth 100000 in
theorem isIDByte_any (c : Int) (w : World) : Calls Try.prog 17 #[.int .u8 c] w fun e w' => e = .returned (.bool (isId c)) ∧ w' = w := by
  go_enter Try.func17, Try.ntmps17
  go_wp2
  all_goals
    go_ret
    refine ⟨ret_eq ?_, rfl⟩
    simp only [isId, Bool.or_eq_true, Bool.and_eq_true, decide_eq_true_eq, beq_iff_eq, true_iff]
    first | omega | decide
def alN : List Nat := [65, 66, 67, 68, 69, 70, 71, 72, 73, 74, 75, 76, 77, 78, 79, 80, 81, 82, 83, 84, 85, 86, 87, 88, 89, 90, 97, 98, 99, 100, 101, 102, 103, 104, 105, 106, 107, 108, 109, 110, 111, 112, 113, 114, 115, 116, 117, 118, 119, 120, 121, 122, 48, 49, 50, 51, 52, 53, 54, 55, 56, 57, 46, 95, 45]
theorem alN_id : ∀ j, j < 65 → isId (alN.getD j 0 : Nat) = true := by decide +kernel
theorem id_alN : ∀ n, n < 128 → isId (n : Nat) = true → n ∈ alN := by decide +kernel
theorem id_get {c : Int} (h : isId c = true) : ∃ j, j < 65 ∧ ((alN.getD j 0 : Nat) : Int) = c := by
  have hc : 0 ≤ c ∧ c < 128 := by
    simp only [isId, Bool.or_eq_true, Bool.and_eq_true, decide_eq_true_eq, beq_iff_eq] at h
    omega
  have hm := id_alN c.toNat (by omega) (by rw [Int.toNat_of_nonneg hc.1]; exact h)
  obtain ⟨j, hj, he⟩ := List.mem_iff_getElem.1 hm
  refine ⟨j, hj, ?_⟩
  rw [show alN.getD j 0 = c.toNat by simp [List.getD, hj, he]]
  omega
theorem alS_get : ∀ (k : Nat) (h : k < 65), ((⟨#[65, 66, 67, 68, 69, 70, 71, 72, 73, 74, 75, 76, 77, 78, 79, 80, 81, 82, 83, 84, 85, 86, 87, 88, 89, 90, 97, 98, 99, 100, 101, 102, 103, 104, 105, 106, 107, 108, 109, 110, 111, 112, 113, 114, 115, 116, 117, 118, 119, 120, 121, 122, 48, 49, 50, 51, 52, 53, 54, 55, 56, 57, 46, 95, 45]⟩ : ByteArray)[k]'h).toNat = alN.getD k 0 := by decide +kernel
set_option maxRecDepth 100000 in
theorem alph_any (c : Int) (w : World) : Calls Try.prog 9 #[.int .u8 c] w fun e w' => e = .returned (.bool (isId c)) ∧ w' = w := by
  go_enter Try.func9, Try.ntmps9
  go_wp2
  go_loopw [3] (fun i W => ∃ k : Nat, k ≤ 65 ∧ i = .int .i64 k ∧ W = w ∧ Hid (∀ j, j < k → ¬ ((alN.getD j 0 : Nat) : Int) = c)) (fun i _ => 65 - (intOf i).toNat)
  case atStart => exact ⟨0, Nat.zero_le _, rfl, rfl, fun j hj => absurd hj (Nat.not_lt_zero _)⟩
  case round =>
    obtain ⟨k, hk, rfl, rfl, HN⟩ := hrel
    by_cases hlt : k < 65
    · have hrun := alS_get k hlt
      have HI : Hid (isId (alN.getD k 0 : Nat) = true) := alN_id k hlt
      obtain ⟨x, hx⟩ : ∃ x : Nat, alN.getD k 0 = x := ⟨_, rfl⟩
      rw [hx] at hrun HI
      have HX : Hid (alN.getD k 0 = x) := hx
      clear hx
      by_cases hc : (x : Int) = c
      · subst hc
        go_wp2
        go_ret
        exact ⟨by rw [HI.out]; rfl, rfl⟩
      · have hc' : ((x : Int) == c) = false := by simpa using hc
        go_wp2
        refine ⟨⟨k + 1, hlt, by go_num, trivial, fun j hj => ?_⟩, by simp [intOf]; omega⟩
        by_cases e : j = k
        · subst e; rw [HX.out]; exact hc
        · exact HN.out j (by omega)
    · have hk' : k = 65 := by omega
      subst hk'
      have hno : isId c = false := by
        cases h : isId c with
        | false => rfl
        | true => obtain ⟨j, hj, e⟩ := id_get h; exact absurd e (HN.out j hj)
      go_wp2
      go_ret
      exact ⟨by rw [hno]; rfl, rfl⟩

/-! ### ValidID -/
def byteAt (s : ByteArray) (j : Nat) : Int := (s.data.toList.getD j 0).toNat
def okTo (s : ByteArray) : Nat → Bool
  | 0 => true
  | k + 1 => okTo s k && isId (byteAt s k)
theorem okTo_false {s : ByteArray} {k : Nat} (h : isId (byteAt s k) = false) : ∀ n, k < n → okTo s n = false
  | 0, hk => absurd hk (Nat.not_lt_zero _)
  | n + 1, hk => by
    rw [okTo]
    by_cases e : k = n
    · subst e; rw [h, Bool.and_false]
    · rw [okTo_false h n (by omega), Bool.false_and]
theorem bytes_below (w : World) (e : TypeId) (s : ByteArray) : Below w.heap.size w (Lib.bytesWorld w e s) where
  os := by simp [Lib.bytesWorld, World.freeze, World.alloc, World.drew, -World.alloc_eq, -World.drew_eq]
  tape := by simp [Lib.bytesWorld, World.freeze, World.alloc, World.drew, -World.alloc_eq, -World.drew_eq]
  output := by simp [Lib.bytesWorld, World.freeze, World.alloc, World.drew, -World.alloc_eq, -World.drew_eq]
  size := by rw [Lib.bytesWorld_size]; omega
  block := fun k hk => Lib.bytesWorld_at_old w e s k hk
def validB (s : ByteArray) : Bool := (decide (1 ≤ s.size) && decide (s.size ≤ 64)) && okTo s s.size
set_option maxRecDepth 100000 in
theorem validID_any (s : ByteArray) (hs : s.size ≤ maxLen) (w : World) : Calls Try.prog 10 #[.string s] w fun e w' => e = .returned (.bool (validB s)) ∧ Below w.heap.size w w' := by
  unfold maxLen at hs
  by_cases h0 : s.size = 0
  · have hv : validB s = false := by simp [validB, h0]
    rw [hv]
    go_enter Try.func10, Try.ntmps10
    go_wp2
    go_ret
    exact ⟨rfl, Below.refl _ _⟩
  by_cases h1 : 64 < s.size
  · have hv : validB s = false := by simp [validB]; intro _ h; omega
    rw [hv]
    go_enter Try.func10, Try.ntmps10
    go_wp2
    go_ret
    exact ⟨rfl, Below.refl _ _⟩
  have hv : validB s = okTo s s.size := by
    have a1 : decide (1 ≤ s.size) = true := by simp; omega
    have a2 : decide (s.size ≤ 64) = true := by simp; omega
    rw [validB, a1, a2]; rfl
  rw [hv]
  have i0 : ((s.size : Int) == 0) = false := beq_eq_false_iff_ne.2 (by omega)
  have i1 : decide ((64 : Int) < (s.size : Int)) = false := by simp; omega
  have HB : Hid (Below w.heap.size w (Lib.bytesWorld w 5 s)) := bytes_below w 5 s
  have HC : Hid (∀ j, j < s.size → (Lib.bytesWorld w 5 s).cell? ⟨w.heap.size, j, none⟩ = some (.int .u8 (byteAt s j))) := fun j hj => Lib.bytesWorld_cell w 5 s j hj
  have HSZ : Hid (w.heap.size < (Lib.bytesWorld w 5 s).heap.size) := by show _ < _; rw [Lib.bytesWorld_size]; omega
  clear hv
  go_enter Try.func10, Try.ntmps10
  go_wp2
  rw [Lib.run_convert_string_bytes w 9 26 5 s (u := .string) Try.underlying9 Try.underlying26 Try.underlying5]
  simp only [Result.andThen]
  rw [Oper.upon_value]
  obtain ⟨W1, hW1⟩ : ∃ W1, W1 = Lib.bytesWorld w 5 s := ⟨_, rfl⟩
  rw [← hW1] at HB HC HSZ ⊢
  clear hW1
  generalize hg : w.heap.size = g at *
  have HG : Hid (w.heap.size = g) := hg
  clear hg
  have hgl : g < W1.heap.size := HSZ.out
  go_wp2
  go_loopw [16] (fun i W => ∃ k : Nat, k ≤ s.size ∧ i = .int .i64 k ∧ W = W1 ∧ Hid (okTo s k = true)) (fun i _ => s.size - (intOf i).toNat)
  case atStart => exact ⟨0, Nat.zero_le _, rfl, rfl, rfl⟩
  case round =>
    obtain ⟨k, hk, rfl, rfl, HO⟩ := hrel
    by_cases hlt : k < s.size
    · have hc := HC.out k hlt
      obtain ⟨x, hx⟩ : ∃ x, byteAt s k = x := ⟨_, rfl⟩
      rw [hx] at hc
      have HX : Hid (byteAt s k = x) := hx
      clear hx
      go_wp2_with fail
      refine (isIDByte_any x _).mono ?_
      rintro r w2 ⟨rfl, rfl⟩
      cases hi : isId x with
      | true =>
        go_wp2
        exact ⟨⟨k + 1, hlt, by go_num, trivial, by show (okTo s k && isId (byteAt s k)) = true; rw [HO.out, HX.out, hi]; rfl⟩, by simp [intOf]; omega⟩
      | false =>
        go_wp2
        go_ret
        exact ⟨by rw [okTo_false (k := k) (by rw [HX.out, hi]) _ hlt]; rfl, by rw [HG.out]; exact HB.out⟩
    · have hk' : k = s.size := by omega
      subst hk'
      go_wp2
      go_ret
      exact ⟨by rw [HO.out]; rfl, by rw [HG.out]; exact HB.out⟩
end Go.Proofs.Qxb6602553a
