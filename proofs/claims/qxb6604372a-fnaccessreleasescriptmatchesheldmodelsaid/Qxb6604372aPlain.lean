/-
  PLAIN: scripts of accesses, and the state that they make.
-/
import Derived.Test.Qxb6604372aInv
namespace Go.Proofs.Qxb6604372a

/-- One access of a script. -/
structure Ev where
  txn : Int
  n : Int
  site : Int
  page : Int
  upd : Bool
  bor : Bool
  lt : Int
  ln : Int
def Ev.pk (e : Ev) : K2 := (e.site, e.page)
def Ev.ck (e : Ev) : K3 := (e.txn, e.n, e.site)
def Ev.who (e : Ev) : K2 := (e.txn, e.n)
def Ev.lend (e : Ev) : K2 := (e.lt, e.ln)
def Ev.acc (e : Ev) : Acc := ⟨e.txn, e.n, e.site, e.page, e.upd⟩
def evCells (e : Ev) : List Value := [.int .i64 e.txn, .int .i64 e.n, .int .i64 e.site, .int .i64 e.page, .bool e.upd, .bool e.bor, .int .i64 e.lt, .int .i64 e.ln]

/-- The places (from i on) of those that p takes. -/
def idxFrom (p : Ev → Nat → Bool) : Nat → List Ev → List Int
  | _, [] => []
  | i, e :: es => if p e i then (i : Int) :: idxFrom p (i + 1) es else idxFrom p (i + 1) es
def idx (p : Ev → Nat → Bool) (evs : List Ev) : List Int := idxFrom p 0 evs
/-- The borrowings of k. -/
def borFrom (k : K2) : Nat → List Ev → List (Int × K2)
  | _, [] => []
  | i, e :: es => if e.bor && e.who == k then ((i : Int), e.lend) :: borFrom k (i + 1) es else borFrom k (i + 1) es
def bors (k : K2) (evs : List Ev) : List (Int × K2) := borFrom k 0 evs

theorem idxFrom_snoc (p : Ev → Nat → Bool) (e : Ev) : ∀ (l : List Ev) (i : Nat), idxFrom p i (l ++ [e]) = idxFrom p i l ++ if p e (i + l.length) then [((i + l.length : Nat) : Int)] else []
  | [], i => by simp [idxFrom]
  | x :: l, i => by
    simp only [List.cons_append, idxFrom, idxFrom_snoc p e l (i + 1), List.length_cons]
    rw [show i + 1 + l.length = i + (l.length + 1) by omega]
    split <;> simp
theorem idx_snoc (p : Ev → Nat → Bool) (l : List Ev) (e : Ev) : idx p (l ++ [e]) = idx p l ++ if p e l.length then [(l.length : Int)] else [] := by
  have := idxFrom_snoc p e l 0
  simpa [idx] using this
theorem borFrom_snoc (k : K2) (e : Ev) : ∀ (l : List Ev) (i : Nat), borFrom k i (l ++ [e]) = borFrom k i l ++ if e.bor && e.who == k then [(((i + l.length : Nat) : Int), e.lend)] else []
  | [], i => by simp [borFrom]
  | x :: l, i => by
    simp only [List.cons_append, borFrom, borFrom_snoc k e l (i + 1), List.length_cons]
    rw [show i + 1 + l.length = i + (l.length + 1) by omega]
    split <;> simp
theorem bors_snoc (k : K2) (l : List Ev) (e : Ev) : bors k (l ++ [e]) = bors k l ++ if e.bor && e.who == k then [((l.length : Int), e.lend)] else [] := by
  have := borFrom_snoc k e l 0
  simpa [bors] using this
theorem idxFrom_length (p : Ev → Nat → Bool) : ∀ (l : List Ev) (i : Nat), (idxFrom p i l).length ≤ l.length
  | [], _ => by simp [idxFrom]
  | x :: l, i => by
    have := idxFrom_length p l (i + 1)
    simp only [idxFrom, List.length_cons]
    split <;> simp <;> omega
theorem idx_length (p : Ev → Nat → Bool) (l : List Ev) : (idx p l).length ≤ l.length := idxFrom_length p l 0
theorem borFrom_length (k : K2) : ∀ (l : List Ev) (i : Nat), (borFrom k i l).length ≤ l.length
  | [], _ => by simp [borFrom]
  | x :: l, i => by
    have := borFrom_length k l (i + 1)
    simp only [borFrom, List.length_cons]
    split <;> simp <;> omega
theorem bors_length (k : K2) (l : List Ev) : (bors k l).length ≤ l.length := borFrom_length k l 0
theorem mem_idxFrom (p : Ev → Nat → Bool) {x : Int} : ∀ (l : List Ev) (i : Nat), x ∈ idxFrom p i l → ∃ j e, x = ((i + j : Nat) : Int) ∧ l[j]? = some e ∧ p e (i + j) = true
  | [], _, h => by simp [idxFrom] at h
  | y :: l, i, h => by
    simp only [idxFrom] at h
    have key : x ∈ idxFrom p (i + 1) l → ∃ j e, x = ((i + j : Nat) : Int) ∧ (y :: l)[j]? = some e ∧ p e (i + j) = true := fun h => by
      obtain ⟨j, e, h1, h2, h3⟩ := mem_idxFrom p l (i + 1) h
      exact ⟨j + 1, e, by rw [h1]; congr 1; omega, by simpa using h2, by rw [← h3]; congr 1; omega⟩
    split at h
    · rcases List.mem_cons.1 h with rfl | h
      · exact ⟨0, y, by simp, by simp, by simpa using by assumption⟩
      · exact key h
    · exact key h
theorem mem_idx {p : Ev → Nat → Bool} {l : List Ev} {x : Int} (h : x ∈ idx p l) : ∃ (j : Nat) (e : Ev), x = (j : Int) ∧ l[j]? = some e ∧ p e j = true := by
  obtain ⟨j, e, h1, h2, h3⟩ := mem_idxFrom p l 0 h
  simp only [Nat.zero_add] at h1 h3
  exact ⟨j, e, h1, h2, h3⟩
theorem mem_borFrom {k : K2} {x : Int × K2} : ∀ (l : List Ev) (i : Nat), x ∈ borFrom k i l → ∃ j e, x.1 = ((i + j : Nat) : Int) ∧ l[j]? = some e
  | [], _, h => by simp [borFrom] at h
  | y :: l, i, h => by
    simp only [borFrom] at h
    have key : x ∈ borFrom k (i + 1) l → ∃ j e, x.1 = ((i + j : Nat) : Int) ∧ (y :: l)[j]? = some e := fun h => by
      obtain ⟨j, e, h1, h2⟩ := mem_borFrom l (i + 1) h
      exact ⟨j + 1, e, by rw [h1]; congr 1; omega, by simpa using h2⟩
    split at h
    · rcases List.mem_cons.1 h with rfl | h
      · exact ⟨0, y, by simp, by simp⟩
      · exact key h
    · exact key h
theorem mem_bors {k : K2} {l : List Ev} {x : Int × K2} (h : x ∈ bors k l) : ∃ j : Nat, x.1 = (j : Int) ∧ j < l.length := by
  obtain ⟨j, e, h1, h2⟩ := mem_borFrom l 0 h
  exact ⟨j, by simpa using h1, (List.getElem?_eq_some_iff.1 h2).1⟩

/-- What the script evs has made, the accesses of which 'rel' says so released. -/
def stOf (evs : List Ev) (rel : Nat → Bool) (lc cv : Int) : St where
  lc := lc
  cv := cv
  accs := evs.map Ev.acc
  cohA k := idx (fun e _ => e.ck == k) evs
  pagA k := idx (fun e _ => e.pk == k) evs
  pagH k := idx (fun e i => e.pk == k && !rel i) evs
  runB k := bors k evs

/-- Keys in the order in which they were first met. -/
def addKey {K : Type} [BEq K] (l : List K) (k : K) : List K := if l.contains k then l else l ++ [k]
def firsts {K : Type} [BEq K] (f : Ev → K) (evs : List Ev) : List K := evs.foldl (fun l e => addKey l (f e)) []
theorem firsts_snoc {K : Type} [BEq K] (f : Ev → K) (evs : List Ev) (e : Ev) : firsts f (evs ++ [e]) = addKey (firsts f evs) (f e) := by simp [firsts]

/-- The maps' keys are those that the script has met (and 'extra' cohorts). -/
structure KeysOf (L : Lay) (evs : List Ev) (extra : List K3) : Prop where
  pag : L.pag.map (·.1) = firsts Ev.pk evs
  coh : L.coh.map (·.1) = firsts Ev.ck evs ++ extra
  run : L.run.map (·.1) = firsts Ev.who (evs.filter Ev.bor)

/-- Does access number j stand in e's way? -/
def hit (accs : List Acc) (e : Ev) (j : Int) : Bool := match accs[j.toNat]? with | some a => a.txn != e.txn && (e.upd || a.upd) | none => false
def conflict (s : St) (e : Ev) : Bool := (s.pagH e.pk).any (hit s.accs e)
def chain (s : St) (e : Ev) : Bool := e.bor && !(s.runB e.lend).isEmpty

def updK {K V : Type} [BEq K] (f : K → V) (k : K) (v : V) : K → V := fun k' => if k' == k then v else f k'
end Go.Proofs.Qxb6604372a
