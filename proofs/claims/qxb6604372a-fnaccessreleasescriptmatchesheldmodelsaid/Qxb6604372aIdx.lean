/-
  slices.IndexFunc and ContainsFunc over []int, with the two closures of the auditor.
-/
import Derived.Test.Qxb6604372aHit
namespace Go.Proofs.Qxb6604372a
open Go.ChangeShapes Go.WideShapes Go.ChangeAt Go.RowKit

/-- A slice of ints, as the walk reads it. -/
def IntSl (w : World) (a : Option Addr) (xs : List Int) : Prop := ∀ i x, xs[i]? = some x → ∃ g, a = some ⟨g, 0, none⟩ ∧ w.cell? ⟨g, i, none⟩ = some (.int .i64 x)
theorem IntSl.kept {W W' : World} {a : Option Addr} {xs : List Int} (h : IntSl W a xs) (hb : Below W.heap.size W W') : IntSl W' a xs := by
  intro i x hx
  obtain ⟨g, ha, hc⟩ := h i x hx
  exact ⟨g, ha, by rw [hb.cell (lt_of_cell hc)]; exact hc⟩
theorem Row.sl {base : Nat} {own : Nat → Option Tag} {w : World} {tag : Tag} {v : Value} {xs : List Int} (h : Row base own w tag 3 1 v xs.length (ints xs)) : ∃ a cap, v = .slice a xs.length cap ∧ IntSl w a xs := by
  rcases h.1.2 with ⟨rfl, hn⟩ | ⟨g, cap, cur, rfl, _, hh, _, _, _, ht⟩
  · have : xs = [] := List.length_eq_zero_iff.1 hn
    subst this
    exact ⟨none, 0, rfl, fun i x hi => by simp at hi⟩
  · exact ⟨_, cap, rfl, fun i x hi => ⟨g, rfl, row_cell hh ht (by simp [ints, hi])⟩⟩
/-- What IndexFunc answers. -/
def FindR (p : Int → Bool) (xs : List Int) (r : Int) : Prop :=
  (∃ (k : Nat) (x : Int), r = (k : Int) ∧ xs[k]? = some x ∧ p x = true ∧ ∀ (i : Nat) (y : Int), i < k → xs[i]? = some y → p y = false) ∨ (r = -1 ∧ ∀ (i : Nat) (y : Int), xs[i]? = some y → p y = false)
theorem FindR.any {p : Int → Bool} {xs : List Int} {r : Int} (h : FindR p xs r) : (decide (0 ≤ r)) = xs.any p := by
  rcases h with ⟨k, x, rfl, hx, hp, _⟩ | ⟨rfl, hn⟩
  · rw [decide_eq_true (by omega)]
    symm
    rw [List.any_eq_true]
    exact ⟨x, List.mem_of_getElem? hx, hp⟩
  · rw [decide_eq_false (by omega)]
    symm
    rw [List.any_eq_false]
    intro y hy
    obtain ⟨i, hi⟩ := List.mem_iff_getElem?.1 hy
    rw [hn i y hi]; simp

set_option maxHeartbeats 1000000 in
theorem indexHit_any (a : Option Addr) (cap : Nat) (xs : List Int) (B0 B1 : Nat) (p : Int → Bool) (w : World) (hx : IntSl w a xs) (hxl : xs.length ≤ 1024)
    (hcall : ∀ (i : Nat) (x : Int) (W : World), xs[i]? = some x → Below w.heap.size w W → Calls Try.prog 51 #[.int .i64 x, pv B0, pv B1] W fun e W' => e = .returned (.bool (p x)) ∧ Below w.heap.size w W') :
    Calls Try.prog 54 #[.slice a xs.length cap, .func (.func 51) #[] #[pv B0, pv B1]] w fun e w' => ∃ r, e = .returned (.int .i64 r) ∧ FindR p xs r ∧ Below w.heap.size w w' := by
  have HX : Hid _ := hx
  have HC : Hid _ := hcall
  clear hx hcall
  generalize hn : xs.length = n at *
  have HN : Hid _ := hn
  clear hn
  go_enter Try.func54, Try.ntmps54
  go_wp2
  go_loopw [8] (fun j W => ∃ k : Nat, k ≤ n ∧ j = .int .i64 k ∧ Hid (∀ (i : Nat) (y : Int), i < k → xs[i]? = some y → p y = false) ∧ Below w.heap.size w W) (fun j _ => n - (intOf j).toNat)
  case atStart => exact ⟨0, Nat.zero_le _, rfl, fun i y hi => absurd hi (Nat.not_lt_zero _), Below.refl _ _⟩
  case round =>
    obtain ⟨k, hk, rfl, HP, hb⟩ := hrel
    by_cases hlt : k < n
    · obtain ⟨x, hxk⟩ : ∃ x, xs[k]? = some x := ⟨xs[k]'(by rw [HN.out]; exact hlt), by simp⟩
      obtain ⟨g, rfl, c0⟩ := HX.out k x hxk
      have c1 : wr.cell? ⟨g, k, none⟩ = some (.int .i64 x) := by rw [hb.cell (lt_of_cell c0)]; exact c0
      have HK : Hid _ := hxk
      clear c0 hxk
      go_wp2_with fail
      refine (HC.out k x _ HK.out hb).mono ?_
      rintro e w' ⟨rfl, hb'⟩
      cases hp : p x with
      | true =>
        go_wp2
        go_ret
        exact ⟨_, rfl, Or.inl ⟨k, x, rfl, HK.out, hp, HP.out⟩, hb'⟩
      | false =>
        have HP' : Hid (∀ (i : Nat) (y : Int), i < k + 1 → xs[i]? = some y → p y = false) := fun i y hi hy => by
          by_cases e : i = k
          · subst e; have := HK.out; rw [hy] at this; cases this; exact hp
          · exact HP.out i y (by omega) hy
        clear hp
        go_wp2
        go_roundw
        case rel => exact ⟨k + 1, by omega, by go_num, HP', hb'⟩
        case measure => simp [intOf]; omega
    · go_wp2
      go_ret
      exact ⟨_, rfl, Or.inr ⟨rfl, fun i y hy => HP.out i y (by have := (List.getElem?_eq_some_iff.1 hy).1; have := HN.out; omega) hy⟩, hb⟩

set_option maxHeartbeats 1000000 in
theorem indexDel_any (a : Option Addr) (cap : Nat) (xs : List Int) (B0 : Nat) (p : Int → Bool) (w : World) (hx : IntSl w a xs) (hxl : xs.length ≤ 1024)
    (hcall : ∀ (i : Nat) (x : Int) (W : World), xs[i]? = some x → Below w.heap.size w W → Calls Try.prog 48 #[.int .i64 x, pv B0] W fun e W' => e = .returned (.bool (p x)) ∧ Below w.heap.size w W') :
    Calls Try.prog 54 #[.slice a xs.length cap, .func (.func 48) #[] #[pv B0]] w fun e w' => ∃ r, e = .returned (.int .i64 r) ∧ FindR p xs r ∧ Below w.heap.size w w' := by
  have HX : Hid _ := hx
  have HC : Hid _ := hcall
  clear hx hcall
  generalize hn : xs.length = n at *
  have HN : Hid _ := hn
  clear hn
  go_enter Try.func54, Try.ntmps54
  go_wp2
  go_loopw [8] (fun j W => ∃ k : Nat, k ≤ n ∧ j = .int .i64 k ∧ Hid (∀ (i : Nat) (y : Int), i < k → xs[i]? = some y → p y = false) ∧ Below w.heap.size w W) (fun j _ => n - (intOf j).toNat)
  case atStart => exact ⟨0, Nat.zero_le _, rfl, fun i y hi => absurd hi (Nat.not_lt_zero _), Below.refl _ _⟩
  case round =>
    obtain ⟨k, hk, rfl, HP, hb⟩ := hrel
    by_cases hlt : k < n
    · obtain ⟨x, hxk⟩ : ∃ x, xs[k]? = some x := ⟨xs[k]'(by rw [HN.out]; exact hlt), by simp⟩
      obtain ⟨g, rfl, c0⟩ := HX.out k x hxk
      have c1 : wr.cell? ⟨g, k, none⟩ = some (.int .i64 x) := by rw [hb.cell (lt_of_cell c0)]; exact c0
      have HK : Hid _ := hxk
      clear c0 hxk
      go_wp2_with fail
      refine (HC.out k x _ HK.out hb).mono ?_
      rintro e w' ⟨rfl, hb'⟩
      cases hp : p x with
      | true =>
        go_wp2
        go_ret
        exact ⟨_, rfl, Or.inl ⟨k, x, rfl, HK.out, hp, HP.out⟩, hb'⟩
      | false =>
        have HP' : Hid (∀ (i : Nat) (y : Int), i < k + 1 → xs[i]? = some y → p y = false) := fun i y hi hy => by
          by_cases e : i = k
          · subst e; have := HK.out; rw [hy] at this; cases this; exact hp
          · exact HP.out i y (by omega) hy
        clear hp
        go_wp2
        go_roundw
        case rel => exact ⟨k + 1, by omega, by go_num, HP', hb'⟩
        case measure => simp [intOf]; omega
    · go_wp2
      go_ret
      exact ⟨_, rfl, Or.inr ⟨rfl, fun i y hy => HP.out i y (by have := (List.getElem?_eq_some_iff.1 hy).1; have := HN.out; omega) hy⟩, hb⟩

theorem containsHit_any (a : Option Addr) (cap : Nat) (xs : List Int) (B0 B1 : Nat) (p : Int → Bool) (w : World) (hx : IntSl w a xs) (hxl : xs.length ≤ 1024)
    (hcall : ∀ (i : Nat) (x : Int) (W : World), xs[i]? = some x → Below w.heap.size w W → Calls Try.prog 51 #[.int .i64 x, pv B0, pv B1] W fun e W' => e = .returned (.bool (p x)) ∧ Below w.heap.size w W') :
    Calls Try.prog 50 #[.slice a xs.length cap, .func (.func 51) #[] #[pv B0, pv B1]] w fun e w' => e = .returned (.bool (xs.any p)) ∧ Below w.heap.size w w' := by
  have hu := indexHit_any a cap xs B0 B1 p w hx hxl hcall
  have HU : Hid _ := hu
  clear hu hx hcall
  generalize xs.length = n at *
  go_enter Try.func50, Try.ntmps50
  go_wp2_with fail
  refine Calls.mono HU.out ?_
  rintro e w' ⟨r, rfl, hr, hb⟩
  have HR : Hid _ := hr.any
  clear hr
  go_wp2
  go_ret
  exact ⟨by rw [← HR.out]; rfl, hb⟩
end Go.Proofs.Qxb6604372a
