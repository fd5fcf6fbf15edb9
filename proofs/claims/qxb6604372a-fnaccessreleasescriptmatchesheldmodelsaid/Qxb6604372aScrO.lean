/-
  The auditor behind k steps of a script of accesses and releases; the rows of the law.
-/
import Derived.Test.Qxb6604372aCopyO
import Derived.Test.Qxb6604372aDo
import Derived.Test.Qxb6604372aReport
namespace Go.Proofs.Qxb6604372a
open Go.ChangeShapes Go.WideShapes Go.ChangeAt Go.RowKit

def lcO (ops : List OpE) (k : Nat) : Nat := cnt (cfM (accs ops) (posF 0 ops) (rpsAt ops (accs ops).length ops.length)) (made ops k)
def cvO (ops : List OpE) (k : Nat) : Nat := cnt (chM (accs ops)) (made ops k)
structure ScrO (W0 : World) (A : Nat) (ops : List OpE) (k : Nat) (L : Lay) (W : World) : Prop where
  st : ScrSt W0.heap.size (accs (ops.take k)) (relAt ops k) (lcO ops k) (cvO ops k) [] L W
  A : L.A = A
  below : Below W0.heap.size W0 W
theorem ScrO.start {W0 W : World} {ops : List OpE} {L : Lay} (h : Inv W0.heap.size L st0 W) (hb : Below W0.heap.size W0 W) (h1 : L.coh = []) (h2 : L.pag = []) (h3 : L.run = []) : ScrO W0 L.A ops 0 L W := by
  refine ⟨⟨h, ?_⟩, rfl, hb⟩
  simp [keysL, h1, h2, h3, keysOf, firsts, accs]
theorem ScrO.kept {W0 W W' : World} {A : Nat} {ops : List OpE} {k : Nat} {L : Lay} (h : ScrO W0 A ops k L W) (hb : Below W.heap.size W W') : ScrO W0 A ops k L W' :=
  ⟨h.st.below hb, h.A, h.below.trans (hb.mono h.below.size)⟩
theorem ScrO.frame {W0 W W' : World} {A : Nat} {ops : List OpE} {k : Nat} {L : Lay} (h : ScrO W0 A ops k L W) (hf : Fr L.own W W') : Below W0.heap.size W0 W' :=
  h.below.trans (hf.below (fun b t e => (h.st.inv.lt b t e).1) h.below.size)
theorem access_o {W0 W : World} {A : Nat} {ops : List OpE} {k : Nat} {L : Lay} {o : OpE} (h : ScrO W0 A ops k L W) (ho : ops[k]? = some o) (hr : o.rel = false) (hl : ops.length ≤ 1024) (hok : ∀ p, p < k → okOp ops p) :
    Calls Try.prog 29 #[pv A, .int .i64 o.ev.txn, .int .i64 o.ev.n, .int .i64 o.ev.site, .int .i64 o.ev.page, .bool o.ev.upd, .bool o.ev.bor, .int .i64 o.ev.lt, .int .i64 o.ev.ln] W fun r w' => r = .returned (.tuple #[]) ∧ ∃ L', ScrO W0 A ops (k + 1) L' w' := by
  have hk := (List.getElem?_eq_some_iff.1 ho).1
  have hlen := made_length ops k (by omega)
  have hle : made ops k ≤ k := cnt_le _ _
  have hacc : AccOk (stOf (accs (ops.take k)) (relAt ops k) (lcO ops k) (cvO ops k)) L o.ev := by
    refine accOk_stOf o.ev (by rw [h.st.keys]; simp) (by rw [hlen]; omega) ?_ ?_
    · rw [hlen]; have : lcO ops k ≤ made ops k := cnt_le _ _; omega
    · rw [hlen]; have : cvO ops k ≤ made ops k := cnt_le _ _; omega
  have := zaccess_any o.ev W h.st.inv hacc
  rw [h.A] at this
  refine this.mono ?_
  rintro r w' ⟨rfl, L', h1, h2, h3, h4⟩
  refine ⟨rfl, L', ?_, h2.A.trans h.A, h.frame h3⟩
  have hs := ScrSt.access o.ev h.st (by rw [hlen]; exact relAt_fresh hok) h1 h4
  have e1 : accs (ops.take (k + 1)) = accs (ops.take k) ++ [o.ev] := by rw [accs_take ho, hr]; rfl
  have e2 : ((lcO ops (k + 1) : Nat) : Int) = (lcO ops k : Int) + if conflict (stOf (accs (ops.take k)) (relAt ops k) (lcO ops k) (cvO ops k)) o.ev then 1 else 0 := by
    rw [conflict_model ho hr]
    unfold lcO
    rw [made_succ ho, hr]
    simp only [Bool.false_eq_true, if_false, cnt]
    split <;> simp
  have e3 : ((cvO ops (k + 1) : Nat) : Int) = (cvO ops k : Int) + if chain (stOf (accs (ops.take k)) (relAt ops k) (lcO ops k) (cvO ops k)) o.ev then 1 else 0 := by
    rw [chain_model ho hr]
    unfold cvO
    rw [made_succ ho, hr]
    simp only [Bool.false_eq_true, if_false, cnt]
    split <;> simp
  rw [e1, relAt_acc ho hr, e2, e3]
  exact hs
theorem release_o {W0 W : World} {A : Nat} {ops : List OpE} {k : Nat} {L : Lay} {o : OpE} (h : ScrO W0 A ops k L W) (ho : ops[k]? = some o) (hr : o.rel = true) (hl : ops.length ≤ 1024) (hok : okOp ops k) :
    Calls Try.prog 28 #[pv A, .int .i64 o.ix] W fun r w' => r = .returned (.tuple #[]) ∧ ∃ L', ScrO W0 A ops (k + 1) L' w' := by
  have hk := (List.getElem?_eq_some_iff.1 ho).1
  have hlen := made_length ops k (by omega)
  have hle : made ops k ≤ k := cnt_le _ _
  obtain ⟨h0, h1⟩ := hok o ho hr
  obtain ⟨i, hi⟩ := Int.eq_ofNat_of_zero_le h0
  have hi' : o.ix = (i : Int) := hi
  rw [hi'] at h1 ⊢
  refine (zrelease_scr i A W h.st h.A (by rw [hlen]; omega) (by rw [hlen]; omega)).mono ?_
  rintro r w' ⟨rfl, L', h2, h3, h4, _⟩
  refine ⟨rfl, L', ?_, h3, h.frame h4⟩
  have e1 : accs (ops.take (k + 1)) = accs (ops.take k) := by rw [accs_take ho, hr]; simp
  have e2 : made ops (k + 1) = made ops k := by rw [made_succ ho, hr]; simp
  rw [e1, relAt_rel ho hr hi']
  unfold lcO cvO
  rw [e2]
  exact h2
/-- Behind them all. -/
theorem ScrO.all {W0 W : World} {A : Nat} {ops : List OpE} {L : Lay} (h : ScrO W0 A ops ops.length L W) : ScrSt W0.heap.size (accs ops) (relAt ops ops.length) (cnt (cfM (accs ops) (posF 0 ops) (rpsAt ops (accs ops).length ops.length)) (accs ops).length) (cnt (chM (accs ops)) (accs ops).length) [] L W := by
  have := h.st
  rw [List.take_length] at this
  unfold lcO cvO at this
  rw [← made_all] at this
  exact this
theorem rps_rel (ops : List OpE) (m : Nat) : ∀ (j : Nat) x, (rpsAt ops m ops.length)[j]? = some x → (x = -1 ↔ relAt ops ops.length j = false) := by
  intro j x h
  unfold rpsAt at h
  obtain ⟨_, rfl⟩ := mapRange_get' h
  rw [rel_rp_same]
  simp
where
  mapRange_get' {len : Nat} {f : Nat → Int} {j : Nat} {x : Int} (h : ((List.range len).map f)[j]? = some x) : j < len ∧ x = f j := by
    rw [List.getElem?_map] at h
    by_cases e : j < len
    · rw [List.getElem?_range e] at h
      cases h
      exact ⟨e, rfl⟩
    · rw [List.getElem?_eq_none (by simp; omega)] at h
      cases h

/-! ### Rows in the making -/
/-- Block g begins with l. -/
def RowL (w : World) (g : Nat) (t : TypeId) (size : Nat) (l : List Value) : Prop := ∃ cur : Array Value, w.heap[g]? = some (.cells cur t (0, 0)) ∧ cur.size = size ∧ cur.toList.take l.length = l
theorem RowL.put {w : World} {g : Nat} {t : TypeId} {size : Nat} {l : List Value} (h : RowL w g t size l) (vs : List Value) (hf : l.length + vs.length ≤ size) : RowL (setCells w g l.length vs) g t size (l ++ vs) := by
  obtain ⟨cur, hh, hs, ht⟩ := h
  refine ⟨putAt cur l.length vs, heap_setCells vs _ _ _ hh, by rw [putAt_size]; exact hs, ?_⟩
  rw [List.length_append, putAt_take _ _ _ (by omega), ht]
theorem heap_setCells_other {b k : Nat} (hk : k ≠ b) : ∀ (vs : List Value) (w : World) (o : Nat), (setCells w b o vs).heap[k]? = w.heap[k]?
  | [], _, _ => rfl
  | v :: vs, w, o => by
    show (setCells (w.setCell ⟨b, o, none⟩ v) b (o + 1) vs).heap[k]? = _
    rw [heap_setCells_other hk vs, Below.heap_setCell _ _ _ _ hk]
theorem RowL.of_block {w w' : World} {g : Nat} {t : TypeId} {size : Nat} {l : List Value} (h : RowL w g t size l) (hb : w'.heap[g]? = w.heap[g]?) : RowL w' g t size l := by
  obtain ⟨cur, hh, r⟩ := h
  exact ⟨cur, hb.trans hh, r⟩
theorem RowL.lt {w : World} {g : Nat} {t : TypeId} {size : Nat} {l : List Value} (h : RowL w g t size l) : g < w.heap.size := by
  obtain ⟨cur, hh, _⟩ := h
  exact (Array.getElem?_eq_some_iff.1 hh).1
theorem RowL.full {w : World} {g : Nat} {t : TypeId} {size : Nat} {l : List Value} (h : RowL w g t size l) (hl : l.length = size) : w.heap[g]? = some (.cells l.toArray t (0, 0)) := by
  obtain ⟨cur, hh, hs, ht⟩ := h
  rw [hh]
  congr 2
  apply Array.ext'
  rw [← ht, List.take_of_length_le (by simp; omega)]
theorem evRow_of_full {w : World} {g : Nat} {evs : List Ev} (h : w.heap[g]? = some (.cells (evs.flatMap evCells).toArray 46 (0, 0))) : EvRow w g evs := by
  intro i e hi j x hx
  have hj : j < 8 := by have := (List.getElem?_eq_some_iff.1 hx).1; simpa [evCells] using this
  refine cell_of_block h ?_
  rw [List.getElem?_toArray, flat_get evCells 8 (fun _ => rfl) evs i j _ hi hj]
  exact hx
theorem intRow_of_full {w : World} {g : Nat} {xs : List Int} (h : w.heap[g]? = some (.cells (ints xs).toArray 3 (0, 0))) : IntRow w g xs := by
  intro i x hi
  refine cell_of_block h ?_
  rw [List.getElem?_toArray]
  simp [ints, hi]
/-! ### The row of steps -/
def OpRow (w : World) (g : Nat) (ops : List OpE) : Prop := ∀ i e, ops[i]? = some e → ∀ j v, (opCells e)[j]? = some v → w.cell? ⟨g, i * 10 + j, none⟩ = some v
theorem OpRow.kept {w w' : World} {g : Nat} {ops : List OpE} (h : OpRow w g ops) (hb : Below w.heap.size w w') : OpRow w' g ops := by
  intro i e hi j v hv
  have := h i e hi j v hv
  rw [hb.cell (lt_of_cell this)]; exact this
structure Op10 (w : World) (g o : Nat) (e : OpE) : Prop where
  c0 : w.cell? ⟨g, o, none⟩ = some (.bool e.rel)
  c1 : w.cell? ⟨g, o + 1, none⟩ = some (.int .i64 e.ix)
  c2 : w.cell? ⟨g, o + 2, none⟩ = some (.int .i64 e.ev.txn)
  c3 : w.cell? ⟨g, o + 3, none⟩ = some (.int .i64 e.ev.n)
  c4 : w.cell? ⟨g, o + 4, none⟩ = some (.int .i64 e.ev.site)
  c5 : w.cell? ⟨g, o + 5, none⟩ = some (.int .i64 e.ev.page)
  c6 : w.cell? ⟨g, o + 6, none⟩ = some (.bool e.ev.upd)
  c7 : w.cell? ⟨g, o + 7, none⟩ = some (.bool e.ev.bor)
  c8 : w.cell? ⟨g, o + 8, none⟩ = some (.int .i64 e.ev.lt)
  c9 : w.cell? ⟨g, o + 9, none⟩ = some (.int .i64 e.ev.ln)
theorem OpRow.at {w : World} {g : Nat} {ops : List OpE} (h : OpRow w g ops) {i : Nat} {e : OpE} (hi : ops[i]? = some e) : Op10 w g (i * 10) e :=
  ⟨h i e hi 0 _ rfl, h i e hi 1 _ rfl, h i e hi 2 _ rfl, h i e hi 3 _ rfl, h i e hi 4 _ rfl, h i e hi 5 _ rfl, h i e hi 6 _ rfl, h i e hi 7 _ rfl, h i e hi 8 _ rfl, h i e hi 9 _ rfl⟩
theorem opRow_of_owns {w : World} {base : Nat} {v : Value} {len : Nat} {ops : List OpE} (h : w.ownsRow base 53 10 v len (ops.flatMap opCells)) (hl : ops.length = len) : ∃ a c, v = .slice a len c ∧ (0 < ops.length → ∃ g, a = some ⟨g, 0, none⟩ ∧ OpRow w g ops) := by
  rcases h.2 with ⟨rfl, h0⟩ | ⟨g, c, cur, rfl, hg, hh, _, _, hs, ht⟩
  · subst h0
    exact ⟨none, 0, rfl, fun h => by omega⟩
  · refine ⟨some ⟨g, 0, none⟩, c, rfl, fun _ => ⟨g, rfl, fun i e hi j x hx => ?_⟩⟩
    have hj : j < 10 := by have := (List.getElem?_eq_some_iff.1 hx).1; simpa [opCells, evCells] using this
    refine row_cell hh ht ?_
    rw [flat_get opCells 10 (fun _ => rfl) ops i j _ hi hj]
    exact hx
/-! ### The releases' row, step by step -/
theorem rpsAt_zero (ops : List OpE) (m : Nat) : rpsAt ops m 0 = List.replicate m (-1) := by
  unfold rpsAt
  apply List.ext_getElem
  · simp
  · intro i h1 h2
    simp [rpOf]
theorem rps_acc {ops : List OpE} {m k : Nat} {o : OpE} (h : ops[k]? = some o) (hr : o.rel = false) : rpsAt ops m (k + 1) = rpsAt ops m k := by
  unfold rpsAt
  apply List.map_congr_left
  intro j _
  rw [rp_succ, show relP ops j k = false by unfold relP; rw [h]; simp [hr]]
  by_cases e : rpOf ops k j = -1
  · rw [if_pos e, e]; rfl
  · rw [if_neg e]
theorem rps_old {ops : List OpE} {m k i : Nat} {o : OpE} (h : ops[k]? = some o) (hi : o.ix = (i : Int)) (hn : rpOf ops k i ≠ -1) : rpsAt ops m (k + 1) = rpsAt ops m k := by
  unfold rpsAt
  apply List.map_congr_left
  intro j _
  rw [rp_succ]
  by_cases e : rpOf ops k j = -1
  · have : j ≠ i := fun e' => by subst e'; exact hn e
    have h2 : relP ops j k = false := by
      unfold relP; rw [h]; simp only [hi]
      have : ((i : Int) == (j : Int)) = false := by simp; omega
      rw [this, Bool.and_false]
    rw [if_pos e, h2, e]; rfl
  · rw [if_neg e]
theorem rps_new {ops : List OpE} {m k i : Nat} {o : OpE} (h : ops[k]? = some o) (hr : o.rel = true) (hi : o.ix = (i : Int)) (hn : rpOf ops k i = -1) : rpsAt ops m (k + 1) = (rpsAt ops m k).set i (k : Int) := by
  unfold rpsAt
  apply List.ext_getElem
  · simp
  · intro j h1 h2
    rw [List.getElem_set]
    simp only [List.getElem_map, List.getElem_range]
    rw [rp_succ]
    by_cases e : i = j
    · subst e
      rw [if_pos hn, if_pos rfl]
      rw [show relP ops i k = true by unfold relP; rw [h]; simp [hr, hi]]
      rfl
    · rw [if_neg e]
      have h3 : relP ops j k = false := by
        unfold relP; rw [h]; simp only [hi]
        have : ((i : Int) == (j : Int)) = false := by simp; omega
        rw [this, Bool.and_false]
      rw [h3]
      by_cases e' : rpOf ops k j = -1
      · rw [if_pos e', e']; rfl
      · rw [if_neg e']
end Go.Proofs.Qxb6604372a
