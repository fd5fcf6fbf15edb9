/-
  FnCohortIsOneFreshCohortPerKey: no key; too many keys; all cases.
-/
import Derived.Test.Qxb6604372aLaw3
namespace Go.Proofs.Qxb6604372a
open Go.ChangeShapes Go.WideShapes Go.ChangeAt Go.RowKit

attribute [local go_sem ↓] equal39_lit
theorem copyKeys_zero (a : Option Addr) (cap : Nat) (w : World) (h : KeysAt w a 0 []) :
    Calls Try.prog 9 #[.slice a 0 cap] w fun e w' => ∃ a' c, e = .returned (.slice a' 0 c) ∧ Below w.heap.size w w' := by
  refine (copyKeys_any a 0 cap [] w h (by omega)).mono ?_
  rintro e w' ⟨v, rfl, hown, hb⟩
  rcases hown.2 with ⟨rfl, _⟩ | ⟨g, c, cur, rfl, _⟩
  · exact ⟨_, _, rfl, hb⟩
  · exact ⟨_, _, rfl, hb⟩
set_option maxRecDepth 100000 in
set_option maxHeartbeats 1000000 in
theorem law3_zero (a : Option Addr) (cap : Nat) (w : World) (h : KeysAt w a 0 []) :
    Calls Try.prog 3 #[.slice a 0 cap] w fun e w' => e = .returned (.bool true) ∧ Below w.heap.size w w' := by
  obtain ⟨i0, hi, hz0, hz1, hz2⟩ := info_parts info30
  have hgd := guard39
  go_enter Try.func3, Try.ntmps3
  go_wp2_with fail
  refine (zzBytes8_true a 0 cap w (by omega)).mono ?_
  rintro e w ⟨rfl, rfl⟩
  go_wp2_with fail
  refine (copyKeys_zero a cap _ h).mono ?_
  rintro e w1 ⟨a', c', rfl, hb1⟩
  go_wp2_with fail
  refine (newAuditor_any w1 (base := w.heap.size) hb1.size).mono ?_
  rintro e w2 ⟨L0, rfl, hinv, hb2, hc0, hp0, hr0, hfree⟩
  have HP0 : Hid _ := hp0
  have HR0 : Hid _ := hr0
  clear hc0 hp0 hr0 hfree h
  go_wp2_with (at_make; refine wpList_make_full _ rfl _ _ 27 rfl w2.heap.size 30 i0 (.pointer none) 1 Try.underlying27 hi hz0 hz1 .i64 .i64 _ _ 0 rfl rfl rfl rfl (by rw [hz2]; omega) (by unfold maxLen; omega) (Nat.le_refl _) ?_; intro w3 hown hgrow)
  have hb3 : Below w2.heap.size w2 w3 := (Below.refl _ _).grown hgrow (Nat.le_refl _) (by simp)
  have HI : Hid _ := hinv.below hb3
  have HB : Hid (Below w.heap.size w w3) := (hb1.trans (hb2.mono hb1.size)).trans (hb3.mono (by have := hb1.size; have := hb2.size; omega))
  clear hown hgrow hinv hb1 hb2 hb3 hi hz0 hz1 hz2
  go_loop [6] (fun j => j = .int .i64 0) (fun _ => 0)
  case atStart => rfl
  case round =>
    subst hrel
    go_wp2
    go_loop [12] (fun j => j = .int .i64 0) (fun _ => 0)
    case atStart => rfl
    case round =>
      subst hrel
      go_wp2_with fail
      refine (report0_at rfl _ HI.out).mono ?_
      rintro e wv ⟨rfl, hbv⟩
      have HV : Hid _ := HI.out.below hbv
      have HBV : Hid _ := HB.out.trans (hbv.mono HB.out.size)
      clear hbv
      go_wp2_with fail
      refine (accessCount0_at rfl _ HV.out).mono ?_
      rintro e wv ⟨rfl, rfl⟩
      go_wp2_with fail
      refine (pageCount0_at rfl _ HV.out HP0.out).mono ?_
      rintro e wv ⟨rfl, rfl⟩
      go_wp2_with fail
      refine (runCount0_at rfl _ HV.out HR0.out).mono ?_
      rintro e wv ⟨rfl, rfl⟩
      go_wp2
      go_ret
      exact ⟨rfl, HBV.out⟩
set_option maxRecDepth 100000 in
theorem law3_big (a : Option Addr) (len cap : Nat) (w : World) (hl : len ≤ maxLen) (hb : 4096 < len) :
    Calls Try.prog 3 #[.slice a len cap] w fun e w' => e = .returned (.bool true) ∧ Below w.heap.size w w' := by
  have hl' := hl
  unfold maxLen at hl'
  by_cases h : len ≤ 1048576
  · have hz := (zzBytes8 a len cap w hl).mono (R' := fun e w' => e = .returned (.bool true) ∧ w' = w) fun e w' ⟨he, hw⟩ => ⟨by rw [he]; simp; omega, hw⟩
    have HZ : Hid _ := hz
    clear hz
    go_enter Try.func3, Try.ntmps3
    go_wp2_with fail
    refine Calls.mono HZ.out ?_
    rintro e w ⟨rfl, rfl⟩
    go_wp2
    go_ret
    exact ⟨rfl, Below.refl _ _⟩
  · have hz := (zzBytes8 a len cap w hl).mono (R' := fun e w' => e = .returned (.bool false) ∧ w' = w) fun e w' ⟨he, hw⟩ => ⟨by rw [he]; simp; omega, hw⟩
    have HZ : Hid _ := hz
    clear hz
    go_enter Try.func3, Try.ntmps3
    go_wp2_with fail
    refine Calls.mono HZ.out ?_
    rintro e w ⟨rfl, rfl⟩
    go_wp2
    go_ret
    exact ⟨rfl, Below.refl _ _⟩
theorem law3_walk (a : Option Addr) (len cap : Nat) (ks : List K3) (w : World) (h : KeysAt w a len ks) (hl : len ≤ maxLen) :
    Calls Try.prog 3 #[.slice a len cap] w fun e w' => e = .returned (.bool true) ∧ Below w.heap.size w w' := by
  by_cases h1 : 4096 < len
  · exact law3_big a len cap w hl h1
  · by_cases h2 : len = 0
    · subst h2
      have : ks = [] := List.length_eq_zero_iff.1 h.1
      subst this
      exact law3_zero a cap w h
    · exact law3_pos a len cap ks w h (by omega) (by omega)
end Go.Proofs.Qxb6604372a
