/-
  PLAIN: what a script of accesses makes of the state.
-/
import Derived.Test.Qxb6604372aMid
namespace Go.Proofs.Qxb6604372a

def keysOf (evs : List Ev) : List K2 × List K3 × List K2 := (firsts Ev.pk evs, firsts Ev.ck evs, firsts Ev.who (evs.filter Ev.bor))
theorem accKeys_keysOf (evs : List Ev) (e : Ev) : accKeys (keysOf evs) e = keysOf (evs ++ [e]) := by
  simp only [accKeys, keysOf, firsts_snoc, List.filter_append]
  cases h : e.bor with
  | false => simp [h]
  | true => simp [h, firsts_snoc]
theorem mem_addKey {K : Type} [BEq K] [LawfulBEq K] {l : List K} {k k' : K} (h : k ∈ l ∨ k = k') : k ∈ addKey l k' := by
  unfold addKey
  split
  · rcases h with h | rfl
    · exact h
    · rename_i hc; exact List.contains_iff_mem.1 hc
  · rcases h with h | rfl
    · exact List.mem_append_left _ h
    · simp
theorem mem_foldl {K : Type} [BEq K] [LawfulBEq K] (f : Ev → K) : ∀ (evs : List Ev) (l : List K) (k : K), (k ∈ l ∨ ∃ e ∈ evs, f e = k) → k ∈ evs.foldl (fun l e => addKey l (f e)) l
  | [], l, k, h => by
    rcases h with h | ⟨e, he, _⟩
    · exact h
    · cases he
  | x :: evs, l, k, h => by
    rw [List.foldl_cons]
    apply mem_foldl f evs
    rcases h with h | ⟨e, he, rfl⟩
    · exact .inl (mem_addKey (.inl h))
    · rcases List.mem_cons.1 he with rfl | he
      · exact .inl (mem_addKey (.inr rfl))
      · exact .inr ⟨e, he, rfl⟩
theorem mem_firsts {K : Type} [BEq K] [LawfulBEq K] (f : Ev → K) {evs : List Ev} {e : Ev} (h : e ∈ evs) : f e ∈ firsts f evs := mem_foldl f evs [] _ (.inr ⟨e, h, rfl⟩)

theorem accSt_stOf (evs : List Ev) (rel : Nat → Bool) (lc cv : Int) (e : Ev) (hr : rel evs.length = false) :
    accSt (stOf evs rel lc cv) e = stOf (evs ++ [e]) rel (lc + if conflict (stOf evs rel lc cv) e then 1 else 0) (cv + if chain (stOf evs rel lc cv) e then 1 else 0) := by
  simp only [accSt, stOf, St.mk.injEq, List.map_append, List.map_cons, List.map_nil, List.length_map, true_and]
  refine ⟨?_, ?_, ?_, ?_⟩
  · funext k
    rw [idx_snoc]
    simp only [updK]
    by_cases h : k = e.ck
    · subst h; simp
    · have h1 : (k == e.ck) = false := by simpa using h
      have h2 : (e.ck == k) = false := by simpa using (Ne.symm h)
      simp [h1, h2]
  · funext k
    rw [idx_snoc]
    simp only [updK]
    by_cases h : k = e.pk
    · subst h; simp
    · have h1 : (k == e.pk) = false := by simpa using h
      have h2 : (e.pk == k) = false := by simpa using (Ne.symm h)
      simp [h1, h2]
  · funext k
    rw [idx_snoc]
    simp only [updK, hr]
    by_cases h : k = e.pk
    · subst h; simp
    · have h1 : (k == e.pk) = false := by simpa using h
      have h2 : (e.pk == k) = false := by simpa using (Ne.symm h)
      simp [h1, h2]
  · cases hb : e.bor with
    | false =>
      simp only [Bool.false_eq_true, if_false]
      funext k
      rw [bors_snoc]
      simp [hb]
    | true =>
      simp only [if_true]
      funext k
      rw [bors_snoc]
      simp only [updK, hb, Bool.true_and]
      by_cases h : k = e.who
      · subst h; simp
      · have h1 : (k == e.who) = false := by simpa using h
        have h2 : (e.who == k) = false := by simpa using (Ne.symm h)
        simp [h1, h2]
theorem accOk_stOf {L : Lay} {evs : List Ev} {rel : Nat → Bool} {lc cv : Int} (e : Ev) (hk : keysL L = keysOf evs) (hl : evs.length < 1024) (h1 : 0 ≤ lc ∧ lc ≤ evs.length) (h2 : 0 ≤ cv ∧ cv ≤ evs.length) : AccOk (stOf evs rel lc cv) L e where
  held x hx := by
    obtain ⟨j, e', rfl, he, hp⟩ := mem_idx hx
    simp only [Bool.and_eq_true, beq_iff_eq] at hp
    refine ⟨j, e'.acc, rfl, by simp [stOf, he], ?_⟩
    apply lookup_of_mem
    have : L.coh.map (·.1) = firsts Ev.ck evs := congrArg (·.2.1) hk
    rw [this]
    have hs : e'.site = e.site := congrArg Prod.fst hp.1
    have := mem_firsts Ev.ck (List.mem_of_getElem? he)
    simp only [Ev.ck, hs] at this
    exact this
  bor x hx := by
    obtain ⟨j, h1, h2⟩ := mem_bors hx
    exact ⟨j, h1, by simpa [stOf] using h2⟩
  len := by simpa [stOf] using hl
  lenH := Nat.le_trans (idx_length _ _) (by omega)
  lenA := Nat.le_trans (idx_length _ _) (by omega)
  lenC := Nat.le_trans (idx_length _ _) (by omega)
  lenR k := Nat.le_trans (bors_length _ _) (by omega)
  lc := ⟨h1.1, by show lc ≤ 1024; omega⟩
  cv := ⟨h2.1, by show cv ≤ 1024; omega⟩
end Go.Proofs.Qxb6604372a
