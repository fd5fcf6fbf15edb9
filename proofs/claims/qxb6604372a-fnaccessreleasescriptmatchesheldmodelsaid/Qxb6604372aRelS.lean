/-
  ZZrelease over the state of a script.
-/
import Derived.Test.Qxb6604372aRel
import Derived.Test.Qxb6604372aStateM
namespace Go.Proofs.Qxb6604372a
open Go.ChangeShapes Go.WideShapes Go.ChangeAt Go.RowKit

/-- What is released, and i too. -/
def relX (rel : Nat → Bool) (i : Nat) : Nat → Bool := fun j => rel j || j == i
theorem relX_same {rel : Nat → Bool} {i : Nat} (h : rel i = true) : relX rel i = rel := by
  funext j
  unfold relX
  by_cases e : j = i
  · subst e; rw [h]; rfl
  · have : (j == i) = false := by simpa using e
    rw [this, Bool.or_false]
theorem idxFrom_congr {p q : Ev → Nat → Bool} : ∀ (l : List Ev) (i : Nat), (∀ j e, l[j]? = some e → p e (i + j) = q e (i + j)) → idxFrom p i l = idxFrom q i l
  | [], _, _ => rfl
  | x :: l, i, h => by
    have h0 := h 0 x (by simp)
    rw [Nat.add_zero] at h0
    have ih : idxFrom p (i + 1) l = idxFrom q (i + 1) l := idxFrom_congr l (i + 1) fun j e he => by
      have := h (j + 1) e (by simpa using he)
      rw [show i + (j + 1) = i + 1 + j by omega] at this
      exact this
    simp only [idxFrom, h0, ih]
theorem idx_split {p : Ev → Nat → Bool} {evs : List Ev} {i : Nat} {e : Ev} (he : evs[i]? = some e) : idx p evs = idx p (evs.take i) ++ ((if p e i then [(i : Int)] else []) ++ idxFrom p (i + 1) (evs.drop (i + 1))) := by
  have hjl := (List.getElem?_eq_some_iff.1 he).1
  have h1 : evs = evs.take i ++ evs.drop i := (List.take_append_drop i evs).symm
  have h2 : evs.drop i = e :: evs.drop (i + 1) := by
    rw [List.drop_eq_getElem_cons hjl]
    rw [(List.getElem?_eq_some_iff.1 he).2]
  have hl : (evs.take i).length = i := by simp; omega
  have h4 : idx p evs = idxFrom p 0 (evs.take i ++ evs.drop i) := by rw [← h1]; rfl
  rw [h4, idxFrom_append, Nat.zero_add, hl, h2]
  simp only [idxFrom]
  split <;> rfl
theorem held_split {evs : List Ev} {rel : Nat → Bool} {i : Nat} {e : Ev} (he : evs[i]? = some e) (hr : rel i = false) :
    ∃ us bs, idx (phAt e.pk rel) evs = us ++ (i : Int) :: bs ∧ (i : Int) ∉ us ∧ (i : Int) ∉ bs ∧ idx (phAt e.pk (relX rel i)) evs = us ++ bs := by
  refine ⟨idx (phAt e.pk rel) (evs.take i), idxFrom (phAt e.pk rel) (i + 1) (evs.drop (i + 1)), ?_, ?_, ?_, ?_⟩
  · rw [idx_split he]
    simp [phAt, hr]
  · intro hm
    obtain ⟨j, e', h1, h2, _⟩ := mem_idx hm
    have := (List.getElem?_eq_some_iff.1 h2).1
    simp at this
    omega
  · intro hm
    obtain ⟨j, e', h1, h2, _⟩ := mem_idxFrom _ _ _ hm
    omega
  · rw [idx_split he]
    have h0 : phAt e.pk (relX rel i) e i = false := by simp [phAt, relX]
    rw [h0]
    simp only [Bool.false_eq_true, if_false, List.nil_append]
    have h1 : idx (phAt e.pk (relX rel i)) (evs.take i) = idx (phAt e.pk rel) (evs.take i) := by
      refine idxFrom_congr _ _ fun j e' hj => ?_
      have hlt := (List.getElem?_eq_some_iff.1 hj).1
      have : ((0 + j) == i) = false := by simp at hlt ⊢; omega
      simp only [phAt, relX, this, Bool.or_false]
    have h2 : idxFrom (phAt e.pk (relX rel i)) (i + 1) (evs.drop (i + 1)) = idxFrom (phAt e.pk rel) (i + 1) (evs.drop (i + 1)) := by
      refine idxFrom_congr _ _ fun j e' hj => ?_
      have : ((i + 1 + j) == i) = false := by simp; omega
      simp only [phAt, relX, this, Bool.or_false]
    rw [h1, h2]
theorem held_other {evs : List Ev} {rel : Nat → Bool} {i : Nat} {e : Ev} (he : evs[i]? = some e) {k : K2} (hk : k ≠ e.pk) : idx (phAt k (relX rel i)) evs = idx (phAt k rel) evs := by
  refine idxFrom_congr _ _ fun j e' hj => ?_
  rw [Nat.zero_add]
  by_cases e0 : j = i
  · subst e0
    rw [he] at hj
    cases hj
    have : (e.pk == k) = false := by simpa using (Ne.symm hk)
    simp only [phAt, this, Bool.false_and]
  · have : (j == i) = false := by simpa using e0
    simp only [phAt, relX, this, Bool.or_false]
theorem stOf_relX {evs : List Ev} {rel : Nat → Bool} {lc cv : Int} {i : Nat} {e : Ev} (he : evs[i]? = some e) {ys : List Int} (hy : idx (phAt e.pk (relX rel i)) evs = ys) : { stOf evs rel lc cv with pagH := updK (stOf evs rel lc cv).pagH e.pk ys } = stOf evs (relX rel i) lc cv := by
  simp only [stOf, St.mk.injEq, true_and, and_true]
  funext k
  by_cases hk : k = e.pk
  · subst hk
    simp only [updK, beq_self_eq_true, if_true]
    exact hy.symm
  · have : (k == e.pk) = false := by simpa using hk
    simp only [updK, this, Bool.false_eq_true, if_false]
    exact (held_other he hk).symm
theorem held_no {evs : List Ev} {rel : Nat → Bool} {i : Nat} {k : K2} (hr : rel i = true) : (i : Int) ∉ idx (phAt k rel) evs := by
  intro hm
  obtain ⟨j, e', h1, h2, h3⟩ := mem_idx hm
  have : j = i := by omega
  subst this
  simp [phAt, hr] at h3
section
variable {base : Nat} {L : Lay} {evs : List Ev} {rel : Nat → Bool} {lc cv : Int} {extra : List K3}
theorem release_scr (i A : Nat) (w : World) (h : ScrSt base evs rel lc cv extra L w) (hA : L.A = A) (hi : i < evs.length) (hl : evs.length ≤ 1024) :
    Calls Try.prog 38 #[pv A, .int .i64 i] w fun r w' => r = .returned (.tuple #[]) ∧ ∃ L', ScrSt base evs (relX rel i) lc cv extra L' w' ∧ L'.A = A ∧ Fr L.own w w' ∧ Ext w.heap.size L L' := by
  subst hA
  obtain ⟨e, he⟩ : ∃ e, evs[i]? = some e := ⟨evs[i], by simp⟩
  obtain ⟨pb, hpb⟩ := h.pag (List.mem_of_getElem? he)
  have hacc : (stOf evs rel lc cv).accs[i]? = some e.acc := by simp [stOf, he]
  cases hr : rel i with
  | true =>
    refine (release_no i e.acc pb w h.inv hacc hpb (Nat.le_trans (idx_length _ _) hl) (held_no hr)).mono ?_
    rintro r w' ⟨rfl, hb⟩
    rw [relX_same hr]
    exact ⟨rfl, L, h.below hb, rfl, Fr.of_below hb, Ext.refl _ _⟩
  | false =>
    obtain ⟨us, bs, h1, h2, h3, h4⟩ := held_split he hr
    have hlen := idx_length (phAt e.pk rel) evs
    rw [h1] at hlen
    simp at hlen
    refine (release_found i e.acc pb us bs w h.inv hacc hpb h1 h2 h3 (by omega)).mono ?_
    rintro r w' ⟨rfl, L', hi', hx, hf, hk⟩
    refine ⟨rfl, L', ⟨?_, hk.trans h.keys⟩, hx.A, hf, hx⟩
    rw [← stOf_relX he h4]
    exact hi'
theorem zrelease_scr (i A : Nat) (w : World) (h : ScrSt base evs rel lc cv extra L w) (hA : L.A = A) (hi : i < evs.length) (hl : evs.length ≤ 1024) :
    Calls Try.prog 28 #[pv A, .int .i64 i] w fun r w' => r = .returned (.tuple #[]) ∧ ∃ L', ScrSt base evs (relX rel i) lc cv extra L' w' ∧ L'.A = A ∧ Fr L.own w w' ∧ Ext w.heap.size L L' := by
  have HC : Hid (Calls Try.prog 38 #[pv A, .int .i64 i] w fun r w' => r = .returned (.tuple #[]) ∧ ∃ L', ScrSt base evs (relX rel i) lc cv extra L' w' ∧ L'.A = A ∧ Fr L.own w w' ∧ Ext w.heap.size L L') := release_scr i A w h hA hi hl
  clear h hA hi hl
  go_enter Try.func28, Try.ntmps28
  go_wp2_with fail
  refine Calls.mono HC.out ?_
  rintro r w' ⟨rfl, hh⟩
  have HH : Hid (∃ L', ScrSt base evs (relX rel i) lc cv extra L' w' ∧ L'.A = A ∧ Fr L.own w w' ∧ Ext w.heap.size L L') := hh
  clear hh
  go_wp2
  go_end0
  exact ⟨rfl, HH.out⟩
end
end Go.Proofs.Qxb6604372a
