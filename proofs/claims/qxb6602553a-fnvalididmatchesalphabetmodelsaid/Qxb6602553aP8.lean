/-
  THE STATEMENT 'Rows.FnValidIDMatchesAlphabetModelSaid'.
-/
import Derived.Test.Qxb6602553aRows
import Derived.WalkKit
import Derived.ProofKit
import Derived.OpenShut
import Derived.ShutString
import Derived.Test.Qxb6602553aIds
import Derived.Deep.DeepCutAuto
namespace Go.Proofs.Qxb6602553a.fnValidIDMatchesAlphabetModel
open Go.ChangeShapes Go.WideShapes Go.ChangeAt Go.RowKit
open Go.ChangeMaps (open_string shut_string)
set_option linter.unusedVariables false      -- a walk need not use every 'w<i>' (that an integer argument fits its kind)

theorem own : ownKnob Try.prog.godebug = none := by kernel_rfl

theorem zzBytes8 (s : ByteArray) (w : World) (hl : s.size ≤ maxLen) : Calls Try.prog 8 #[.string s] w fun e w' => e = .returned (.bool (decide (s.size ≤ 1048576))) ∧ w' = w := by
  unfold maxLen at hl
  by_cases h : s.size ≤ 1048576
  · go_enter Try.func8, Try.ntmps8
    go_wp2
    go_ret
    simp [h]
  · go_enter Try.func8, Try.ntmps8
    go_wp2
    go_ret
    simp [h]
/-! ### STEP 1: THE WALK -/
set_option maxRecDepth 100000 in
theorem walk_small (a0 : ByteArray) (w0 : a0.size ≤ 1048576) (w : World) :
    Calls Try.prog 3 #[.string a0] w fun e w' => e = .returned (.bool true) ∧ Below w.heap.size w w' := by
  have hd : decide (a0.size ≤ 1048576) = true := by simpa using w0
  have i1 : decide ((1048576 : Int) < (a0.size : Int)) = false := by simp; omega
  obtain ⟨q, hq⟩ : ∃ q, (decide (1 ≤ a0.size) && decide (a0.size ≤ 64)) = q := ⟨_, rfl⟩
  have HV : Hid (validB a0 = (q && okTo a0 a0.size)) := by show _ = _; rw [validB, hq]
  go_enter Try.func3, Try.ntmps3
  go_wp2_with fail
  refine (zzBytes8 a0 _ (by unfold maxLen; omega)).mono ?_
  rintro r w1 ⟨rfl, rfl⟩
  rw [hd]
  go_upto_region 5 with fail
  go_cut [3] (fun v W => v = .bool q ∧ W = w1)
  case first =>
    by_cases h1 : 1 ≤ a0.size
    · have k1 : decide ((1 : Int) ≤ (a0.size : Int)) = true := by simp; omega
      by_cases h2 : a0.size ≤ 64
      · have k2 : decide ((a0.size : Int) ≤ 64) = true := by simp; omega
        go_wp2
        go_meet
        case rel => exact ⟨by rw [← hq]; simp [h1, h2], rfl⟩
      · have k2 : decide ((a0.size : Int) ≤ 64) = false := by simp; omega
        go_wp2
        go_meet
        case rel => exact ⟨by rw [← hq]; simp [h1, h2], rfl⟩
    · have k1 : decide ((1 : Int) ≤ (a0.size : Int)) = false := by simp; omega
      go_wp2
      go_meet
      case rel => exact ⟨by rw [← hq]; simp [h1], rfl⟩
  case rest =>
  obtain ⟨rfl, rfl⟩ := hcut
  clear hq
  go_wp2
  go_loopw [3, 4] (fun v i W => ∃ k : Nat, k ≤ a0.size ∧ i = .int .i64 k ∧ v = .bool (q && okTo a0 k) ∧ W = wc) (fun _ i _ => a0.size - (intOf i).toNat)
  case atStart => exact ⟨0, Nat.zero_le _, rfl, by simp [okTo], rfl⟩
  case round =>
    obtain ⟨k, hk, rfl, rfl, rfl⟩ := hrel
    by_cases hlt : k < a0.size
    · obtain ⟨x, hx⟩ : ∃ x, byteAt a0 k = x := ⟨_, rfl⟩
      have hget : (((a0[k]'hlt).toNat : Nat) : Int) = x := by rw [← hx]; simp [byteAt, List.getD, hlt]; rfl
      have HX : Hid (byteAt a0 k = x) := hx
      clear hx
      go_wp2_with fail
      refine (alph_any x _).mono ?_
      rintro r w2 ⟨rfl, rfl⟩
      cases hi : isId x with
      | true =>
        go_wp2
        exact ⟨⟨k + 1, hlt, by go_num, by show _ = Value.bool (q && (okTo a0 k && isId (byteAt a0 k))); rw [HX.out, hi, Bool.and_true], trivial⟩, by simp [intOf]; omega⟩
      | false =>
        go_wp2
        exact ⟨⟨k + 1, hlt, by go_num, by show _ = Value.bool (q && (okTo a0 k && isId (byteAt a0 k))); rw [HX.out, hi, Bool.and_false, Bool.and_false], trivial⟩, by simp [intOf]; omega⟩
    · have hk' : k = a0.size := by omega
      subst hk'
      go_wp2_with fail
      refine (validID_any a0 (by unfold maxLen; omega) _).mono ?_
      rintro r w2 ⟨rfl, hb⟩
      rw [HV.out]
      go_wp2
      go_ret
      exact ⟨by simp, hb⟩
theorem walk (a0 : ByteArray) (w0 : a0.size ≤ maxLen) (w : World) :
    Calls Try.prog 3 #[.string a0] w fun e w' => e = .returned (.bool true) ∧ Below w.heap.size w w' := by
  by_cases h : a0.size ≤ 1048576
  · exact walk_small a0 h w
  · have hd : decide (a0.size ≤ 1048576) = false := by simpa using h
    go_enter Try.func3, Try.ntmps3
    go_wp2_with fail
    refine (zzBytes8 a0 _ w0).mono ?_
    rintro r w1 ⟨rfl, rfl⟩
    rw [hd]
    go_wp2
    go_ret
    exact ⟨rfl, Below.refl _ _⟩
/-! ### THE ROW's STEP: WRITTEN OUT: LEAVE IT -/
set_option maxRecDepth 100000 in
theorem lifted (os : Os) (started : os.Started) (H : Type) (enc : TypeId × Value → H) :
    ReturnsInHanded {} Try.checked os 3 .any (Rows.fnValidIDMatchesAlphabetModelSpec.pre6 enc Try.prog Try.f3 Rows.fnValidIDMatchesAlphabetModelRow.domain false) (Rows.fnValidIDMatchesAlphabetModelSpec.post enc Try.prog Try.f3 false true false false) := by
  refine returnsInHanded_of_change (C := Try.checked) own started (by kernel_rfl) Try.func3
    (ChangeSpec.witness6 (enc := enc) (C := Try.checked) false ⟨#[], #[.string ByteArray.empty], []⟩ 8 (by kernel_rfl) (by kernel_rfl) (by kernel_rfl) (by kernel_rfl)) ?_
  intro W base args ds gs before hval0 hW hcnd _
  have hval : ∀ (j : Nat) t v, Try.f3.params[j]? = some t → args[j]? = some v → Value.okWide Try.prog W .any base t v := hval0
  have hW' := hW
  obtain ⟨p, q, hA0, hV, rfl, hfz, hnd⟩ := hW
  have hA : DataW.TrodAll enc Try.prog W 0 (fun _ => true) true Try.f3.params.toList args.toList ds p := hA0
  rw [Try.params3] at hA hval
  obtain ⟨v0, vs0, d0, ds0, p0, q0, hargs, rfl, rfl, h0, r0⟩ := trodAll_cons hA
  obtain ⟨rfl, rfl, rfl⟩ := trodAll_nil r0
  obtain rfl : args = #[v0] := by cases args; simp_all
  obtain ⟨rfl, rfl⟩ := trodVars_none hV
  obtain ⟨a0, rfl, rfl, rfl, w0⟩ := open_string Try.underlying9 (hval 0 9 v0 rfl rfl) h0
  clear hA0 hval0
  simp only [List.append_nil] at hW'
  refine (walk a0 w0 W).mono fun e W' ⟨he, bel⟩ => ?_
  subst he
  exact ⟨_, rfl, _, _, _, [], _, [], hW', trodAll_mk1 (shut_bool Try.underlying4 _), (trodAll_cons_mk (shut_string Try.underlying9 w0) trodAll_mk0), rfl, bel.frame _, fun h => by cases h⟩

theorem over : Rows.fnValidIDMatchesAlphabetModelRow.holds Try.pinned (OpenSpec.ofChange Rows.fnValidIDMatchesAlphabetModelSpec) :=
  OpenClaim.holds_of_wide 3 Try.f3 rfl rfl rfl rfl rfl rfl rfl ⟨rfl, rfl, rfl, rfl, rfl⟩ rfl rfl rfl rfl rfl (by kernel_rfl) Try.func3 (by kernel_rfl)
    (of_decide_eq_true (by kernel_rfl)) (by unfold Func.isWrapper; first | (rw [if_pos (by decide +kernel)]; kernel_rfl) | (rw [if_neg (by decide +kernel)]; exact ⟨rfl, rfl⟩))
    (fun os started H enc _ => lifted os started H enc)

/-- ████ THE STATEMENT ████ -/
theorem proved : Rows.FnValidIDMatchesAlphabetModelSaid :=
  over
end Go.Proofs.Qxb6602553a.fnValidIDMatchesAlphabetModel
namespace Go.Proofs.Qxb6602553a
/-- THE STATEMENT, under a short name. -/
theorem fnValidIDMatchesAlphabetModelProved : Rows.FnValidIDMatchesAlphabetModelSaid := fnValidIDMatchesAlphabetModel.proved
end Go.Proofs.Qxb6602553a
