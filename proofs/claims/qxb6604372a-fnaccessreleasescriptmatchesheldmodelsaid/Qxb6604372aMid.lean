/-
  THE STATE IN THE MIDST OF 'access': 'Mid'; its steps.
-/
import Derived.Test.Qxb6604372aIdx
namespace Go.Proofs.Qxb6604372a
open Go.ChangeShapes Go.WideShapes Go.ChangeAt Go.RowKit

/-! ### Keys -/
theorem mem_of_lookup {K : Type} [BEq K] [LawfulBEq K] {l : List (K × Nat)} {k : K} {b : Nat} (h : l.lookup k = some b) : k ∈ l.map (·.1) := by
  induction l with
  | nil => cases h
  | cons p l ih =>
    obtain ⟨k', b'⟩ := p
    by_cases e : k = k'
    · subst e; simp
    · have : (k == k') = false := by simpa using e
      simp only [List.lookup, this] at h
      simp [ih h]
theorem not_mem_of_lookup {K : Type} [BEq K] [LawfulBEq K] {l : List (K × Nat)} {k : K} (h : l.lookup k = none) : ¬ k ∈ l.map (·.1) := by
  induction l with
  | nil => simp
  | cons p l ih =>
    obtain ⟨k', b'⟩ := p
    by_cases e : k = k'
    · subst e; simp [List.lookup] at h
    · have h1 : (k == k') = false := by simpa using e
      simp only [List.lookup, h1] at h
      simp [e]
      simpa using ih h
theorem lookup_of_mem {K : Type} [BEq K] [LawfulBEq K] {l : List (K × Nat)} {k : K} (h : k ∈ l.map (·.1)) : ∃ b, l.lookup k = some b := by
  cases hl : l.lookup k with
  | some b => exact ⟨b, rfl⟩
  | none => exact absurd h (not_mem_of_lookup hl)
theorem addKey_of_some {K : Type} [BEq K] [LawfulBEq K] {l : List (K × Nat)} {k : K} {b : Nat} (h : l.lookup k = some b) : addKey (l.map (·.1)) k = l.map (·.1) := by
  unfold addKey
  rw [if_pos (by rw [List.contains_iff_mem]; exact mem_of_lookup h)]
theorem addKey_of_none {K : Type} [BEq K] [LawfulBEq K] {l : List (K × Nat)} {k : K} {b : Nat} (h : l.lookup k = none) : addKey (l.map (·.1)) k = (l ++ [(k, b)]).map (·.1) := by
  unfold addKey
  rw [if_neg (by rw [List.contains_iff_mem]; exact not_mem_of_lookup h)]
  simp
def keysL (L : Lay) : List K2 × List K3 × List K2 := (L.pag.map (·.1), L.coh.map (·.1), L.run.map (·.1))

/-! ### Mid -/
structure Mid (base : Nat) (L0 : Lay) (w : World) (A E B0 B1 B4 : Nat) (e : Ev) (kk : List K2 × List K3 × List K2) (s : St) (L : Lay) (W : World) : Prop where
  inv : Inv base L s W
  aA : L.A = A
  fr : Fr L0.own w W
  ext : Ext w.heap.size L0 L
  ev : EvAt W E e
  b0 : W.heap[B0]? = some (.cells #[pv A] 25)
  b1 : W.heap[B1]? = some (.cells #[pv E] 79)
  b4 : W.heap[B4]? = some (.cells #[.int .i64 e.site, .int .i64 e.page] 84)
  oE : L.own E = none
  o0 : L.own B0 = none
  o1 : L.own B1 = none
  o4 : L.own B4 = none
  keys : keysL L = kk
section
variable {base : Nat} {L0 L L' : Lay} {w W W' : World} {A E B0 B1 B4 : Nat} {e : Ev} {kk kk' : List K2 × List K3 × List K2} {s s' : St}
theorem lt_of_block {W : World} {b : Nat} {o : Obj} (h : W.heap[b]? = some o) : b < W.heap.size := (Array.getElem?_eq_some_iff.1 h).1
theorem Mid.step (m : Mid base L0 w A E B0 B1 B4 e kk s L W) (hext : Ext W.heap.size L L') (hinv : Inv base L' s' W') (hfr : Fr L.own W W') (hk : keysL L' = kk') : Mid base L0 w A E B0 B1 B4 e kk' s' L' W' :=
  ⟨hinv, hext.A.trans m.aA, m.fr.trans hfr fun i hi => m.ext.own i hi, m.ext.trans hext m.fr.size,
   (hfr.block E (lt_of_block m.ev) m.oE).trans m.ev, (hfr.block B0 (lt_of_block m.b0) m.o0).trans m.b0, (hfr.block B1 (lt_of_block m.b1) m.o1).trans m.b1, (hfr.block B4 (lt_of_block m.b4) m.o4).trans m.b4,
   (hext.own E (lt_of_block m.ev)).trans m.oE, (hext.own B0 (lt_of_block m.b0)).trans m.o0, (hext.own B1 (lt_of_block m.b1)).trans m.o1, (hext.own B4 (lt_of_block m.b4)).trans m.o4, hk⟩
theorem Mid.below (m : Mid base L0 w A E B0 B1 B4 e kk s L W) (hb : Below W.heap.size W W') : Mid base L0 w A E B0 B1 B4 e kk s L W' :=
  m.step (Ext.refl _ _) (m.inv.below hb) (Fr.of_below hb) m.keys
theorem keysL_retag (L : Lay) (g : Nat) (t : Tag) : keysL (L.retag g t) = keysL L := rfl
end
section
variable {base : Nat} {L : Lay} {s : St} {A : Nat}
theorem page_at (hA : L.A = A) (t n : Int) (w : World) (h : Inv base L s w) :
    Calls Try.prog 49 #[pv A, .agg #[.int .i64 t, .int .i64 n]] w fun e w' => ∃ L' b, e = .returned (pv b) ∧ L'.pag.lookup (t, n) = some b ∧ Ext w.heap.size L L' ∧ Inv base L' s w' ∧ Fr L.own w w' ∧
      keysL L' = (addKey (keysL L).1 (t, n), (keysL L).2) := by
  subst hA
  refine (page_any t n w h).mono ?_
  rintro e w' ⟨L', b, he, hl, hx, hi, hf, hc, hr, hor⟩
  refine ⟨L', b, he, hl, hx, hi, hf, ?_⟩
  rcases hor with rfl | ⟨h1, _, h3⟩
  · simp only [keysL, addKey_of_some hl]
  · simp only [keysL, hc, hr, h3, addKey_of_none (b := b) h1]
theorem cohort_at (hA : L.A = A) (t n st : Int) (w : World) (h : Inv base L s w) :
    Calls Try.prog 31 #[pv A, .agg #[.int .i64 t, .int .i64 n], .int .i64 st] w fun e w' => ∃ L' b, e = .returned (pv b) ∧ L'.coh.lookup (t, n, st) = some b ∧ Ext w.heap.size L L' ∧ Inv base L' s w' ∧ Fr L.own w w' ∧
      keysL L' = ((keysL L).1, addKey (keysL L).2.1 (t, n, st), (keysL L).2.2) := by
  subst hA
  refine (cohort_any t n st w h).mono ?_
  rintro e w' ⟨L', b, he, hl, hx, hi, hf, hp, hr, hor⟩
  refine ⟨L', b, he, hl, hx, hi, hf, ?_⟩
  rcases hor with rfl | ⟨h1, _, h3⟩
  · simp only [keysL, addKey_of_some hl]
  · simp only [keysL, hp, hr, h3, addKey_of_none (b := b) h1]
theorem run_at (hA : L.A = A) (t n : Int) (w : World) (h : Inv base L s w) :
    Calls Try.prog 53 #[pv A, .agg #[.int .i64 t, .int .i64 n]] w fun e w' => ∃ L' b, e = .returned (pv b) ∧ L'.run.lookup (t, n) = some b ∧ Ext w.heap.size L L' ∧ Inv base L' s w' ∧ Fr L.own w w' ∧
      keysL L' = ((keysL L).1, (keysL L).2.1, addKey (keysL L).2.2 (t, n)) := by
  subst hA
  refine (run_any t n w h).mono ?_
  rintro e w' ⟨L', b, he, hl, hx, hi, hf, hc, hp, hor⟩
  refine ⟨L', b, he, hl, hx, hi, hf, ?_⟩
  rcases hor with rfl | ⟨h1, _, h3⟩
  · simp only [keysL, addKey_of_some hl]
  · simp only [keysL, hc, hp, h3, addKey_of_none (b := b) h1]
end

/-- The state behind one access. -/
def accSt (s : St) (e : Ev) : St where
  lc := s.lc + if conflict s e then 1 else 0
  cv := s.cv + if chain s e then 1 else 0
  accs := s.accs ++ [e.acc]
  cohA := updK s.cohA e.ck (s.cohA e.ck ++ [(s.accs.length : Int)])
  pagA := updK s.pagA e.pk (s.pagA e.pk ++ [(s.accs.length : Int)])
  pagH := updK s.pagH e.pk (s.pagH e.pk ++ [(s.accs.length : Int)])
  runB := if e.bor then updK s.runB e.who (s.runB e.who ++ [((s.accs.length : Int), e.lend)]) else s.runB
def accKeys (kk : List K2 × List K3 × List K2) (e : Ev) : List K2 × List K3 × List K2 := (addKey kk.1 e.pk, addKey kk.2.1 e.ck, if e.bor then addKey kk.2.2 e.who else kk.2.2)
/-- What 'access' asks of the state. -/
structure AccOk (s : St) (L : Lay) (e : Ev) : Prop where
  held : ∀ x ∈ s.pagH e.pk, ∃ (j : Nat) (a : Acc), x = (j : Int) ∧ s.accs[j]? = some a ∧ ∃ b, L.coh.lookup (a.txn, a.n, e.site) = some b
  bor : ∀ x ∈ s.runB e.lend, ∃ i : Nat, x.1 = (i : Int) ∧ i < s.accs.length
  len : s.accs.length < 1024
  lenH : (s.pagH e.pk).length ≤ 1024
  lenA : (s.pagA e.pk).length ≤ 1024
  lenC : (s.cohA e.ck).length ≤ 1024
  lenR : ∀ k, (s.runB k).length ≤ 1024
  lc : 0 ≤ s.lc ∧ s.lc ≤ 1024
  cv : 0 ≤ s.cv ∧ s.cv ≤ 1024
end Go.Proofs.Qxb6604372a
