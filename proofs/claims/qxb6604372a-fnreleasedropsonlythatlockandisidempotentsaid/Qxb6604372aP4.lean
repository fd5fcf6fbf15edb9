/-
  THE STATEMENT 'Rows.FnReleaseDropsOnlyThatLockAndIsIdempotentSaid'.
-/
import Derived.Test.Qxb6604372aLaw7b
import Derived.Test.Qxb6604372aOpenA
namespace Go.Proofs.Qxb6604372a.fnReleaseDropsOnlyThatLockAndIsIdempotent
open Go.ChangeShapes Go.WideShapes Go.ChangeAt Go.RowKit

theorem own : ownKnob Try.prog.godebug = none := by kernel_rfl
theorem laidOut : laidOutB Try.prog = true := by kernel_rfl

set_option maxRecDepth 100000 in
theorem lifted (os : Os) (started : os.Started) (H : Type) (enc : TypeId × Value → H) :
    ReturnsInHanded {} Try.checked os 7 .any (Rows.fnReleaseDropsOnlyThatLockAndIsIdempotentSpec.pre6 enc Try.prog Try.f7 Rows.fnReleaseDropsOnlyThatLockAndIsIdempotentRow.domain false) (Rows.fnReleaseDropsOnlyThatLockAndIsIdempotentSpec.post enc Try.prog Try.f7 false true false false) := by
  refine returnsInHanded_of_change (C := Try.checked) own started (by kernel_rfl) Try.func7
    (ChangeSpec.witness6 (enc := enc) (C := Try.checked) false ⟨#[], #[.slice none 0 0, .int .i64 0], []⟩ 8 (by kernel_rfl) (by kernel_rfl) (by kernel_rfl) (by kernel_rfl)) ?_
  intro W base args ds gs before hval0 hW hcnd _
  have hval : ∀ (j : Nat) t v, Try.f7.params[j]? = some t → args[j]? = some v → Value.okWide Try.prog W .any base t v := hval0
  have hW' := hW
  obtain ⟨p, q, hA0, hV, rfl, hfz, hnd⟩ := hW
  have hA : DataW.TrodAll enc Try.prog W 0 (fun _ => true) true Try.f7.params.toList args.toList ds p := hA0
  rw [Try.params7] at hA hval
  obtain ⟨v0, vs0, d0, ds0, p0, q0, hargs, rfl, rfl, h0, r0⟩ := trodAll_cons hA
  obtain ⟨v1, vs1, d1, ds1, p1, q1, hargs1, rfl, rfl, h1, r1⟩ := trodAll_cons r0
  obtain ⟨rfl, rfl, rfl⟩ := trodAll_nil r1
  obtain rfl : args = #[v0, v1] := by cases args; simp_all
  obtain ⟨rfl, rfl⟩ := trodVars_none hV
  obtain ⟨a0, len0, cap0, rfl⟩ := okWide_slice Try.underlying41 (hval 0 41 v0 rfl rfl)
  have k0 := h0
  have lt0 : ∀ x ∈ p0, x.block < W.heap.size := by obtain ⟨m, hm⟩ := k0; exact DataW.trod_lt m _ _ _ hm
  obtain ⟨z0, w0, l0⟩ : ∃ ks, ElemsAt 8 evCells W a0 len0 ks ∧ len0 ≤ maxLen := by
    obtain ⟨fuel, hf⟩ := h0
    exact elems_of_trod Try.underlying41 cells46 (by decide) (fun _ => rfl) read46 hf
  obtain ⟨n, rfl, rfl, rfl, hwn⟩ := open_int Try.underlying3 (hval 1 3 v1 rfl rfl) h1
  clear hA0 hval0
  refine (law7_walk a0 len0 cap0 z0 n W w0 l0).mono fun e W' ⟨he, bel⟩ => ?_
  subst he
  exact ⟨_, rfl, _, _, _, [], _, [], hW', trodAll_mk1 (shut_bool Try.underlying4 _), (trodAll_cons_mk (Below.trod laidOut (by kernel_rfl) (of_decide_eq_true (by kernel_rfl)) k0 bel lt0) (trodAll_cons_mk (shut_int Try.underlying3 hwn) trodAll_mk0)), rfl, bel.frame _, fun h => by cases h⟩

theorem over : Rows.fnReleaseDropsOnlyThatLockAndIsIdempotentRow.holds Try.pinned (OpenSpec.ofChange Rows.fnReleaseDropsOnlyThatLockAndIsIdempotentSpec) :=
  OpenClaim.holds_of_wide 7 Try.f7 rfl rfl rfl rfl rfl rfl rfl ⟨rfl, rfl, rfl, rfl, rfl⟩ rfl rfl rfl rfl rfl (by kernel_rfl) Try.func7 (by kernel_rfl)
    (of_decide_eq_true (by kernel_rfl)) (by unfold Func.isWrapper; first | (rw [if_pos (by decide +kernel)]; kernel_rfl) | (rw [if_neg (by decide +kernel)]; exact ⟨rfl, rfl⟩))
    (fun os started H enc _ => lifted os started H enc)

/-- THE STATEMENT. -/
theorem proved : Rows.FnReleaseDropsOnlyThatLockAndIsIdempotentSaid := over
end Go.Proofs.Qxb6604372a.fnReleaseDropsOnlyThatLockAndIsIdempotent
namespace Go.Proofs.Qxb6604372a
/-- THE STATEMENT, under a short name. -/
theorem fnReleaseDropsOnlyThatLockAndIsIdempotentProved : Rows.FnReleaseDropsOnlyThatLockAndIsIdempotentSaid := fnReleaseDropsOnlyThatLockAndIsIdempotent.proved
end Go.Proofs.Qxb6604372a
