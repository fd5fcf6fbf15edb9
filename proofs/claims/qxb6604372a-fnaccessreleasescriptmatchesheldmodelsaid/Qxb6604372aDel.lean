/-
  slices.DeleteFunc over []int with the closure of release.
-/
import Derived.Test.Qxb6604372aIdx
import Derived.Test.Qxb6604372aPrep
import Derived.Lib.SliceRun
namespace Go.Proofs.Qxb6604372a
open Go.ChangeShapes Go.WideShapes Go.ChangeAt Go.RowKit

theorem relClosure (x i : Int) (B0 : Nat) (w : World) (h : w.cell? ⟨B0, 0, none⟩ = some (.int .i64 i)) : Calls Try.prog 48 #[.int .i64 x, pv B0] w fun e w' => e = .returned (.bool (x == i)) ∧ w' = w := by
  have hl := lt_of_cell h
  go_enter Try.func48, Try.ntmps48
  go_wp2
  go_ret
  exact ⟨rfl, rfl⟩

/-! ### Plain: the shift by one place -/
def shf (us bs : List Int) (i : Int) (t : Nat) : List Int := us ++ (bs.take t ++ (i :: bs).drop t)
theorem shf_zero (us bs : List Int) (i : Int) : shf us bs i 0 = us ++ i :: bs := by simp [shf]
theorem shf_length (us bs : List Int) (i : Int) {t : Nat} (h : t ≤ bs.length) : (shf us bs i t).length = us.length + bs.length + 1 := by simp [shf]; omega
theorem shf_next {us bs : List Int} {i : Int} {t : Nat} {b : Int} (h : bs[t]? = some b) : (shf us bs i t)[us.length + t + 1]? = some b := by
  have ht := (List.getElem?_eq_some_iff.1 h).1
  rw [shf, List.getElem?_append_right (by omega), List.getElem?_append_right (by simp; omega), List.getElem?_drop]
  rw [show t + (us.length + t + 1 - us.length - (bs.take t).length) = t + 1 by simp; omega]
  simpa using h
theorem shf_set {us bs : List Int} {i : Int} {t : Nat} {b : Int} (h : bs[t]? = some b) : (shf us bs i t).set (us.length + t) b = shf us bs i (t + 1) := by
  obtain ⟨ht, hb⟩ := List.getElem?_eq_some_iff.1 h
  rw [shf, shf, List.set_append_right _ _ (by omega), Nat.add_sub_cancel_left, List.set_append_right _ _ (by simp; omega)]
  rw [show t - (bs.take t).length = 0 by simp; omega]
  have h1 : (i :: bs).drop t = (i :: bs)[t]'(by simp; omega) :: (i :: bs).drop (t + 1) := List.drop_eq_getElem_cons _
  rw [h1, List.set_cons_zero, List.take_add_one, h]
  simp
theorem shf_end (us bs : List Int) (i : Int) : ∃ z, shf us bs i bs.length = us ++ (bs ++ [z]) := by
  have : ((i :: bs).drop bs.length).length = 1 := by simp
  match hd : (i :: bs).drop bs.length, this with
  | [z], _ => exact ⟨z, by rw [shf, hd, List.take_length]⟩
theorem find_at {us bs : List Int} {i : Int} {r : Int} (ha : i ∉ us) (hb : i ∉ bs) (h : FindR (fun x => x == i) (us ++ i :: bs) r) : r = (us.length : Int) := by
  rcases h with ⟨k, x, rfl, hx, hp, hn⟩ | ⟨rfl, hn⟩
  · have hx' : x = i := by simpa using hp
    subst hx'
    rcases Nat.lt_trichotomy k us.length with h | h | h
    · rw [List.getElem?_append_left h] at hx
      exact absurd (List.mem_of_getElem? hx) ha
    · rw [h]
    · rw [List.getElem?_append_right (by omega)] at hx
      obtain ⟨d, hd⟩ : ∃ d, k - us.length = d + 1 := ⟨k - us.length - 1, by omega⟩
      rw [hd, List.getElem?_cons_succ] at hx
      exact absurd (List.mem_of_getElem? hx) hb
  · have := hn us.length i (by simp)
    simp at this
theorem find_no {xs : List Int} {i : Int} {r : Int} (ha : i ∉ xs) (h : FindR (fun x => x == i) xs r) : r = -1 := by
  rcases h with ⟨k, x, rfl, hx, hp, hn⟩ | ⟨rfl, hn⟩
  · have hx' : x = i := by simpa using hp
    subst hx'
    exact absurd (List.mem_of_getElem? hx) ha
  · rfl
theorem info3z : ∀ w : World, (zeroValue 3).run Try.prog w = .ok (.int .i64 0) w := by
  intro w
  obtain ⟨i0, hi, hz0, hz1, hz2⟩ := info_parts info3'
  simp [zeroValue, typeInfo, hi, hz0]
theorem sl33_from (g n cap m : Nat) (h : m < n) (hc : n ≤ cap) (w : World) : (Instr.slice 33 (.slice (some ⟨g, 0, none⟩) n cap) (some (.int .i64 (m : Int))) none none).run Try.prog w = .ok (.slice (some ⟨g, m, none⟩) (n - m) (cap - m)) w := by
  have h2 : Try.prog.elem 33 = 3 := by kernel_rfl
  have hu : Try.prog.underlying 33 = some (.slice (Try.prog.elem 33)) := by rw [h2]; exact Try.underlying33
  obtain ⟨i0, hi, hz0, hz1, hz2⟩ := info_parts info3'
  have hm : ¬ cap = m := by omega
  rw [run_slice_l w 33 _ _ _ hu .i64 m (by omega) (by omega), h2]
  simp [sizeOf, typeInfo, hi, hz1, sliced, Result.andThen, hm, Addr.add]
  omega
theorem sl33_to (g n cap m : Nat) (hc : m ≤ cap) (w : World) : (Instr.slice 33 (.slice (some ⟨g, 0, none⟩) n cap) none (some (.int .i64 (m : Int))) none).run Try.prog w = .ok (.slice (some ⟨g, 0, none⟩) m cap) w := by
  have h2 : Try.prog.elem 33 = 3 := by kernel_rfl
  have hu : Try.prog.underlying 33 = some (.slice (Try.prog.elem 33)) := by rw [h2]; exact Try.underlying33
  obtain ⟨i0, hi, hz0, hz1, hz2⟩ := info_parts info3'
  rw [run_slice_h w 33 _ _ _ hu .i64 m (by omega) (by omega), h2]
  simp [sizeOf, typeInfo, hi, hz1, sliced, Result.andThen, Addr.add]

/-! ### The walks -/
set_option maxHeartbeats 1000000 in
theorem delete_no (a : Option Addr) (cap : Nat) (xs : List Int) (i : Int) (B0 : Nat) (w : World) (hx : IntSl w a xs) (hxl : xs.length ≤ 1024) (hB : w.cell? ⟨B0, 0, none⟩ = some (.int .i64 i)) (hi : i ∉ xs) :
    Calls Try.prog 47 #[.slice a xs.length cap, .func (.func 48) #[] #[pv B0]] w fun e w' => e = .returned (.slice a xs.length cap) ∧ Below w.heap.size w w' := by
  have HC : Hid (Calls Try.prog 54 #[.slice a xs.length cap, .func (.func 48) #[] #[pv B0]] w fun e w' => e = .returned (.int .i64 (-1)) ∧ Below w.heap.size w w') := by
    refine (indexDel_any a cap xs B0 (fun x => x == i) w hx hxl fun k x W _ hb => ?_).mono ?_
    · refine (relClosure x i B0 W (by rw [hb.cell (lt_of_cell hB)]; exact hB)).mono ?_
      rintro e w' ⟨rfl, rfl⟩
      exact ⟨rfl, hb⟩
    · rintro e w' ⟨r, rfl, hf, hb⟩
      rw [find_no hi hf]
      exact ⟨rfl, hb⟩
  clear hx hxl hB hi
  generalize xs.length = n at *
  go_enter Try.func47, Try.ntmps47
  go_wp2_with fail
  refine Calls.mono HC.out ?_
  rintro e w' ⟨rfl, hb⟩
  go_wp2
  go_ret
  exact ⟨rfl, hb⟩
end Go.Proofs.Qxb6604372a
