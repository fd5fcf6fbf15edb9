/-
  PLAIN for stateMatches: counts of keys.
-/
import Derived.Test.Qxb6604372aScript
namespace Go.Proofs.Qxb6604372a
open Go.ChangeShapes Go.WideShapes Go.ChangeAt Go.RowKit

theorem contains_addKey {K : Type} [BEq K] [LawfulBEq K] (l : List K) (k k' : K) : (addKey l k').contains k = (l.contains k || (k == k')) := by
  unfold addKey
  split
  · rename_i hc
    by_cases h : k = k'
    · subst h; rw [hc]; rfl
    · simp [h]
  · rw [Bool.eq_iff_iff]
    simp [List.mem_append]
theorem contains_foldl {K : Type} [BEq K] [LawfulBEq K] (f : Ev → K) (k : K) : ∀ (evs : List Ev) (l : List K), (evs.foldl (fun l e => addKey l (f e)) l).contains k = (l.contains k || evs.any (fun e => f e == k))
  | [], l => by simp
  | x :: evs, l => by
    rw [List.foldl_cons, contains_foldl f k evs, contains_addKey, List.any_cons, Bool.or_assoc]
    congr 2
    by_cases h : k = f x
    · subst h; simp
    · have h1 : (k == f x) = false := by simpa using h
      have h2 : (f x == k) = false := by simpa using (Ne.symm h)
      rw [h1, h2]
theorem contains_firsts {K : Type} [BEq K] [LawfulBEq K] (f : Ev → K) (k : K) (evs : List Ev) : (firsts f evs).contains k = evs.any (fun e => f e == k) := by
  unfold firsts; rw [contains_foldl]; simp
theorem any_take {evs : List Ev} {j : Nat} {e : Ev} (hj : evs[j]? = some e) (f : Ev → Bool) : (evs.take (j + 1)).any f = ((evs.take j).any f || f e) := by
  rw [List.take_add_one, hj]; simp
theorem firsts_len {K : Type} [BEq K] [LawfulBEq K] (f : Ev → K) (evs : List Ev) (e : Ev) : (firsts f (evs ++ [e])).length = (firsts f evs).length + if !evs.any (fun h => f h == f e) then 1 else 0 := by
  rw [firsts_snoc, addKey, contains_firsts]
  cases evs.any (fun h => f h == f e) <;> simp
theorem firsts_take {K : Type} [BEq K] [LawfulBEq K] (f : Ev → K) {evs : List Ev} {j : Nat} {e : Ev} (hj : evs[j]? = some e) : (firsts f (evs.take (j + 1))).length = (firsts f (evs.take j)).length + if !(evs.take j).any (fun h => f h == f e) then 1 else 0 := by
  rw [List.take_add_one, hj]; exact firsts_len f _ e
theorem any_filter_bor (evs : List Ev) (k : K2) : (evs.filter Ev.bor).any (fun h => h.who == k) = evs.any (fun h => h.bor && h.who == k) := by
  rw [List.any_filter]
theorem runs_take {evs : List Ev} {j : Nat} {e : Ev} (hj : evs[j]? = some e) : (firsts Ev.who ((evs.take (j + 1)).filter Ev.bor)).length = (firsts Ev.who ((evs.take j).filter Ev.bor)).length + if e.bor && !(evs.take j).any (fun h => h.bor && h.who == e.who) then 1 else 0 := by
  rw [List.take_add_one, hj]
  cases hb : e.bor with
  | false => simp [hb]
  | true =>
    rw [List.filter_append]
    have : List.filter Ev.bor (some e).toList = [e] := by simp [hb]
    rw [this, firsts_len, any_filter_bor]
    simp
theorem firsts_le {K : Type} [BEq K] (f : Ev → K) (evs : List Ev) : (firsts f evs).length ≤ evs.length := by
  have : ∀ (evs : List Ev) (l : List K), (evs.foldl (fun l e => addKey l (f e)) l).length ≤ l.length + evs.length := by
    intro evs
    induction evs with
    | nil => intro l; simp
    | cons x evs ih =>
      intro l
      rw [List.foldl_cons]
      refine Nat.le_trans (ih _) ?_
      have : (addKey l (f x)).length ≤ l.length + 1 := by unfold addKey; split <;> simp
      simp; omega
  simpa [firsts] using this evs []

/-- The auditor's state after the script evs (rel: what has been released). -/
structure ScrSt (base : Nat) (evs : List Ev) (rel : Nat → Bool) (lc cv : Int) (extra : List K3) (L : Lay) (w : World) : Prop where
  inv : Inv base L (stOf evs rel lc cv) w
  keys : keysL L = ((keysOf evs).1, (keysOf evs).2.1 ++ extra, (keysOf evs).2.2)
theorem ScrSt.below {base : Nat} {evs : List Ev} {rel : Nat → Bool} {lc cv : Int} {extra : List K3} {L : Lay} {w w' : World} (h : ScrSt base evs rel lc cv extra L w) (hb : Below w.heap.size w w') : ScrSt base evs rel lc cv extra L w' := ⟨h.inv.below hb, h.keys⟩
theorem ScrSt.pag {base : Nat} {evs : List Ev} {rel : Nat → Bool} {lc cv : Int} {extra : List K3} {L : Lay} {w : World} (h : ScrSt base evs rel lc cv extra L w) {e : Ev} (he : e ∈ evs) : ∃ b, L.pag.lookup e.pk = some b := by
  apply lookup_of_mem
  have : L.pag.map (·.1) = firsts Ev.pk evs := congrArg (·.1) h.keys
  rw [this]
  exact mem_firsts Ev.pk he
theorem ScrSt.coh {base : Nat} {evs : List Ev} {rel : Nat → Bool} {lc cv : Int} {extra : List K3} {L : Lay} {w : World} (h : ScrSt base evs rel lc cv extra L w) {e : Ev} (he : e ∈ evs) : ∃ b, L.coh.lookup e.ck = some b := by
  apply lookup_of_mem
  have : L.coh.map (·.1) = firsts Ev.ck evs ++ extra := congrArg (·.2.1) h.keys
  rw [this]
  exact List.mem_append_left _ (mem_firsts Ev.ck he)
theorem ScrSt.run {base : Nat} {evs : List Ev} {rel : Nat → Bool} {lc cv : Int} {extra : List K3} {L : Lay} {w : World} (h : ScrSt base evs rel lc cv extra L w) {e : Ev} (he : e ∈ evs) (hb : e.bor = true) : ∃ b, L.run.lookup e.who = some b := by
  apply lookup_of_mem
  have : L.run.map (·.1) = firsts Ev.who (evs.filter Ev.bor) := congrArg (·.2.2) h.keys
  rw [this]
  exact mem_firsts Ev.who (List.mem_filter.2 ⟨he, hb⟩)
theorem ScrSt.lens {base : Nat} {evs : List Ev} {rel : Nat → Bool} {lc cv : Int} {extra : List K3} {L : Lay} {w : World} (h : ScrSt base evs rel lc cv extra L w) :
    L.pag.length = (firsts Ev.pk evs).length ∧ L.coh.length = (firsts Ev.ck evs).length + extra.length ∧ L.run.length = (firsts Ev.who (evs.filter Ev.bor)).length := by
  have h1 : L.pag.map (·.1) = firsts Ev.pk evs := congrArg (·.1) h.keys
  have h2 : L.coh.map (·.1) = firsts Ev.ck evs ++ extra := congrArg (·.2.1) h.keys
  have h3 : L.run.map (·.1) = firsts Ev.who (evs.filter Ev.bor) := congrArg (·.2.2) h.keys
  refine ⟨?_, ?_, ?_⟩
  · rw [← h1]; simp
  · rw [← List.length_append, ← h2]; simp
  · rw [← h3]; simp
end Go.Proofs.Qxb6604372a
