/-
  pageMatches, cohortMatches, runMatches.
-/
import Derived.Test.Qxb6604372aRead2
import Derived.Test.Qxb6604372aScript
import Derived.Test.Qxb6604372aLaw3
namespace Go.Proofs.Qxb6604372a
open Go.ChangeShapes Go.WideShapes Go.ChangeAt Go.RowKit

/-! ### Plain -/
theorem idxFrom_append (p : Ev → Nat → Bool) : ∀ (l m : List Ev) (i : Nat), idxFrom p i (l ++ m) = idxFrom p i l ++ idxFrom p (i + l.length) m
  | [], m, i => by simp [idxFrom]
  | x :: l, m, i => by
    simp only [List.cons_append, idxFrom, idxFrom_append p l m (i + 1), List.length_cons]
    rw [show i + 1 + l.length = i + (l.length + 1) by omega]
    split <;> simp
theorem idx_at {p : Ev → Nat → Bool} {evs : List Ev} {j : Nat} {e : Ev} (hj : evs[j]? = some e) (hp : p e j = true) : (idx p evs)[(idx p (evs.take j)).length]? = some (j : Int) ∧ (idx p (evs.take j)).length < (idx p evs).length := by
  have hjl := (List.getElem?_eq_some_iff.1 hj).1
  have h1 : evs = evs.take j ++ evs.drop j := (List.take_append_drop j evs).symm
  have h2 : evs.drop j = e :: evs.drop (j + 1) := by
    rw [List.drop_eq_getElem_cons hjl]
    rw [(List.getElem?_eq_some_iff.1 hj).2]
  have h3 : idx p evs = idx p (evs.take j) ++ (j : Int) :: idxFrom p (j + 1) (evs.drop (j + 1)) := by
    have hl : (evs.take j).length = j := by simp; omega
    have h4 : idx p evs = idxFrom p 0 (evs.take j ++ evs.drop j) := by rw [← h1]; rfl
    rw [h4, idxFrom_append, Nat.zero_add, hl, h2]
    simp only [idxFrom, hp, if_true]
    rfl
  rw [h3]
  constructor
  · rw [List.getElem?_append_right (Nat.le_refl _), Nat.sub_self]; rfl
  · simp
theorem idx_take {p : Ev → Nat → Bool} {evs : List Ev} {j : Nat} {e : Ev} (hj : evs[j]? = some e) : idx p (evs.take (j + 1)) = idx p (evs.take j) ++ if p e j then [(j : Int)] else [] := by
  have hjl := (List.getElem?_eq_some_iff.1 hj).1
  have hl : (evs.take j).length = j := by simp; omega
  rw [List.take_add_one, hj]
  have := idx_snoc p (evs.take j) e
  rw [hl] at this
  exact this
theorem borFrom_append (k : K2) : ∀ (l m : List Ev) (i : Nat), borFrom k i (l ++ m) = borFrom k i l ++ borFrom k (i + l.length) m
  | [], m, i => by simp [borFrom]
  | x :: l, m, i => by
    simp only [List.cons_append, borFrom, borFrom_append k l m (i + 1), List.length_cons]
    rw [show i + 1 + l.length = i + (l.length + 1) by omega]
    split <;> simp
theorem bors_at {k : K2} {evs : List Ev} {j : Nat} {e : Ev} (hj : evs[j]? = some e) (hp : (e.bor && e.who == k) = true) : (bors k evs)[(bors k (evs.take j)).length]? = some ((j : Int), e.lend) ∧ (bors k (evs.take j)).length < (bors k evs).length := by
  have hjl := (List.getElem?_eq_some_iff.1 hj).1
  have h1 : evs = evs.take j ++ evs.drop j := (List.take_append_drop j evs).symm
  have h2 : evs.drop j = e :: evs.drop (j + 1) := by
    rw [List.drop_eq_getElem_cons hjl]
    rw [(List.getElem?_eq_some_iff.1 hj).2]
  have h3 : bors k evs = bors k (evs.take j) ++ ((j : Int), e.lend) :: borFrom k (j + 1) (evs.drop (j + 1)) := by
    have hl : (evs.take j).length = j := by simp; omega
    have h4 : bors k evs = borFrom k 0 (evs.take j ++ evs.drop j) := by rw [← h1]; rfl
    rw [h4, borFrom_append, Nat.zero_add, hl, h2]
    simp only [borFrom, hp, if_true]
    rfl
  rw [h3]
  constructor
  · rw [List.getElem?_append_right (Nat.le_refl _), Nat.sub_self]; rfl
  · simp
theorem bors_take {k : K2} {evs : List Ev} {j : Nat} {e : Ev} (hj : evs[j]? = some e) : bors k (evs.take (j + 1)) = bors k (evs.take j) ++ if e.bor && e.who == k then [((j : Int), e.lend)] else [] := by
  have hjl := (List.getElem?_eq_some_iff.1 hj).1
  have hl : (evs.take j).length = j := by simp; omega
  rw [List.take_add_one, hj]
  have := bors_snoc k (evs.take j) e
  rw [hl] at this
  exact this

/-! ### Rows in memory -/
def EvRow (w : World) (g : Nat) (evs : List Ev) : Prop := ∀ i e, evs[i]? = some e → ∀ j v, (evCells e)[j]? = some v → w.cell? ⟨g, i * 8 + j, none⟩ = some v
def IntRow (w : World) (g : Nat) (xs : List Int) : Prop := ∀ i x, xs[i]? = some x → w.cell? ⟨g, i, none⟩ = some (.int .i64 x)
theorem EvRow.kept {w w' : World} {g : Nat} {evs : List Ev} (h : EvRow w g evs) (hb : Below w.heap.size w w') : EvRow w' g evs := by
  intro i e hi j v hv
  have := h i e hi j v hv
  rw [hb.cell (lt_of_cell this)]; exact this
theorem IntRow.kept {w w' : World} {g : Nat} {xs : List Int} (h : IntRow w g xs) (hb : Below w.heap.size w w') : IntRow w' g xs := by
  intro i x hi
  have := h i x hi
  rw [hb.cell (lt_of_cell this)]; exact this
/-- The eight cells of element j. -/
structure Ev8 (w : World) (g o : Nat) (e : Ev) : Prop where
  c0 : w.cell? ⟨g, o, none⟩ = some (.int .i64 e.txn)
  c1 : w.cell? ⟨g, o + 1, none⟩ = some (.int .i64 e.n)
  c2 : w.cell? ⟨g, o + 2, none⟩ = some (.int .i64 e.site)
  c3 : w.cell? ⟨g, o + 3, none⟩ = some (.int .i64 e.page)
  c4 : w.cell? ⟨g, o + 4, none⟩ = some (.bool e.upd)
  c5 : w.cell? ⟨g, o + 5, none⟩ = some (.bool e.bor)
  c6 : w.cell? ⟨g, o + 6, none⟩ = some (.int .i64 e.lt)
  c7 : w.cell? ⟨g, o + 7, none⟩ = some (.int .i64 e.ln)
theorem EvRow.at {w : World} {g : Nat} {evs : List Ev} (h : EvRow w g evs) {i : Nat} {e : Ev} (hi : evs[i]? = some e) : Ev8 w g (i * 8) e :=
  ⟨h i e hi 0 _ rfl, h i e hi 1 _ rfl, h i e hi 2 _ rfl, h i e hi 3 _ rfl, h i e hi 4 _ rfl, h i e hi 5 _ rfl, h i e hi 6 _ rfl, h i e hi 7 _ rfl⟩
abbrev ev8 (e : Ev) : Array Value := #[.int .i64 e.txn, .int .i64 e.n, .int .i64 e.site, .int .i64 e.page, .bool e.upd, .bool e.bor, .int .i64 e.lt, .int .i64 e.ln]
theorem ev8_at {w : World} {b : Nat} {e : Ev} (h : w.heap[b]? = some (.cells (ev8 e) 46)) : Ev8 w b 0 e :=
  ⟨cell_of_block h rfl, cell_of_block h rfl, cell_of_block h rfl, cell_of_block h rfl, cell_of_block h rfl, cell_of_block h rfl, cell_of_block h rfl, cell_of_block h rfl⟩

/-! ### cohortMatches -/
section
variable {base : Nat} {L : Lay} {evs : List Ev} {rel : Nat → Bool} {lc cv : Int}
def ckAt (t n st : Int) : Ev → Nat → Bool := fun e _ => e.ck == (t, n, st)
set_option maxRecDepth 100000 in
set_option maxHeartbeats 2000000 in
theorem cohortMatches_any (t n st : Int) (eg ec cb A : Nat) (w : World) (h : Inv base L (stOf evs rel lc cv) w) (hA : L.A = A) (hev : EvRow w eg evs) (hcb : L.coh.lookup (t, n, st) = some cb) (hl : evs.length ≤ 1024) :
    Calls Try.prog 34 #[pv A, .slice (some ⟨eg, 0, none⟩) evs.length ec, .int .i64 t, .int .i64 n, .int .i64 st] w fun r w' => r = .returned (.bool true) ∧ Below w.heap.size w w' := by
  obtain ⟨_, sv, hb, hrow⟩ := h.coh _ _ hcb
  obtain ⟨sa, sc, rfl, hsl⟩ := hrow.sl
  have hc15 := cohortOf_at hA t n st w h cb hcb
  have hlen := idx_length (ckAt t n st) evs
  obtain ⟨xs, hxs⟩ : ∃ xs, idx (ckAt t n st) evs = xs := ⟨_, rfl⟩
  have hst : (stOf evs rel lc cv).cohA (t, n, st) = xs := hxs
  rw [hst] at hb hsl
  rw [hxs] at hlen
  have HB : Hid _ := hb
  have HSL : Hid (IntSl w sa xs) := hsl
  have HX : Hid _ := hxs
  have H15 : Hid _ := hc15
  have HEV : Hid (EvRow w eg evs) := hev
  clear hb hsl hxs hc15 hev h hrow hst hA hcb
  obtain ⟨m, hm⟩ : ∃ m, evs.length = m := ⟨_, rfl⟩
  obtain ⟨q, hq⟩ : ∃ q, xs.length = q := ⟨_, rfl⟩
  rw [hm] at hl hlen ⊢
  rw [hq] at HB hlen
  have HM : Hid _ := hm
  have HQ : Hid _ := hq
  clear hm hq
  go_enter Try.func34, Try.ntmps34
  go_wp2_with fail
  refine Calls.mono H15.out ?_
  rintro r w ⟨rfl, rfl⟩
  go_wp2_with fail
  refine (cohortPrepared_any cb _ false _ HB.out).mono ?_
  rintro r w ⟨rfl, rfl⟩
  go_wp2_with fail
  refine (cohortAccesses_any cb sa q sc false _ HB.out).mono ?_
  rintro r w ⟨rfl, rfl⟩
  go_wp2
  go_loopw [13, 14] (fun p j W => ∃ jn : Nat, jn ≤ m ∧ j = .int .i64 jn ∧ p = .int .i64 (idx (ckAt t n st) (evs.take jn)).length ∧ Below w.heap.size w W) (fun _ j _ => m - (intOf j).toNat)
  case atStart => exact ⟨0, Nat.zero_le _, rfl, rfl, Below.refl _ _⟩
  case round =>
    obtain ⟨jn, hjn, rfl, rfl, hbw⟩ := hrel
    obtain ⟨pn, hpn⟩ : ∃ pn, (idx (ckAt t n st) (evs.take jn)).length = pn := ⟨_, rfl⟩
    rw [hpn]
    have hpl : pn ≤ jn := by rw [← hpn]; exact Nat.le_trans (idx_length _ _) (by simp; omega)
    by_cases hlt : jn < m
    · obtain ⟨e, he⟩ : ∃ e, evs[jn]? = some e := ⟨evs[jn]'(by rw [HM.out]; exact hlt), by simp⟩
      obtain ⟨c0, c1, c2, c3, c4, c5, c6, c7⟩ := EvRow.at (EvRow.kept HEV.out hbw) he
      have hlg : eg < wr.heap.size := lt_of_cell c0
      have htk := idx_take (p := ckAt t n st) he
      have HTK : Hid _ := htk
      have HPN : Hid _ := hpn
      clear htk hpn
      have h4 : ¬ e.txn = t ∨ (e.txn = t ∧ ¬ e.n = n) ∨ (e.txn = t ∧ e.n = n ∧ ¬ e.site = st) ∨ (e.txn = t ∧ e.n = n ∧ e.site = st) := by
        by_cases e1 : e.txn = t
        · by_cases e2 : e.n = n
          · by_cases e3 : e.site = st
            · exact .inr (.inr (.inr ⟨e1, e2, e3⟩))
            · exact .inr (.inr (.inl ⟨e1, e2, e3⟩))
          · exact .inr (.inl ⟨e1, e2⟩)
        · exact .inl e1
      have hno : ¬ (e.txn = t ∧ e.n = n ∧ e.site = st) → ckAt t n st e jn = false := fun hh => by
        simp only [ckAt, Ev.ck]
        rw [beq_eq_false_iff_ne]
        intro e'
        simp at e'
        exact hh ⟨e'.1, e'.2.1, e'.2.2⟩
      have hfin : ∀ o, Below w.heap.size w (wr.alloc o) := fun o => hbw.alloc hbw.size o
      have HF : Hid (∀ o, Below w.heap.size w (wr.alloc o)) := hfin
      clear hfin
      rcases h4 with e1 | ⟨e1, e2⟩ | ⟨e1, e2, e3⟩ | ⟨e1, e2, e3⟩
      · have hno := hno (fun h => e1 h.1)
        have HNO : Hid _ := hno
        clear hno
        go_wp2
        have htk := HTK.out
        rw [HNO.out] at htk
        exact ⟨⟨jn + 1, hlt, by go_num, by rw [htk]; simp [HPN.out], HF.out _⟩, by simp [intOf]; omega⟩
      · have hno := hno (fun h => e2 h.2.1)
        have HNO : Hid _ := hno
        clear hno
        go_wp2
        have htk := HTK.out
        rw [HNO.out] at htk
        exact ⟨⟨jn + 1, hlt, by go_num, by rw [htk]; simp [HPN.out], HF.out _⟩, by simp [intOf]; omega⟩
      · have hno := hno (fun h => e3 h.2.2)
        have HNO : Hid _ := hno
        clear hno
        go_wp2
        have htk := HTK.out
        rw [HNO.out] at htk
        exact ⟨⟨jn + 1, hlt, by go_num, by rw [htk]; simp [HPN.out], HF.out _⟩, by simp [intOf]; omega⟩
      · have hyes : ckAt t n st e jn = true := by simp [ckAt, Ev.ck, e1, e2, e3]
        obtain ⟨hat, hlt2⟩ := idx_at he hyes
        rw [HX.out, HPN.out] at hat hlt2
        rw [HQ.out] at hlt2
        have htk := HTK.out
        rw [hyes] at htk
        have HTK : Hid _ := htk
        clear htk hyes hno
        obtain ⟨g, rfl, hcell⟩ := IntSl.kept HSL.out hbw pn _ hat
        have hlg2 : g < wr.heap.size := lt_of_cell hcell
        clear hat
        go_wp2
        exact ⟨⟨jn + 1, hlt, by go_num, by rw [HTK.out]; simp [HPN.out], HF.out _⟩, by simp [intOf]; omega⟩
    · have hjm : jn = m := by omega
      subst hjm
      have hpq : pn = q := by rw [← hpn, List.take_of_length_le (by rw [HM.out]; omega), HX.out, HQ.out]
      subst hpq
      clear hpn
      go_wp2
      go_ret
      exact ⟨rfl, hbw⟩
end
end Go.Proofs.Qxb6604372a
