/-
  PLAIN: scripts of accesses and releases.
-/
import Derived.Test.Qxb6604372aHist
import Derived.Test.Qxb6604372aRelS
namespace Go.Proofs.Qxb6604372a

/-- One step of a script. -/
structure OpE where
  rel : Bool
  ix : Int
  ev : Ev
def opCells (o : OpE) : List Value := .bool o.rel :: .int .i64 o.ix :: evCells o.ev
def isAcc (ops : List OpE) (p : Nat) : Bool := match ops[p]? with | some o => !o.rel | none => false
/-- How many accesses ahead of step k. -/
def made (ops : List OpE) (k : Nat) : Nat := cnt (isAcc ops) k
def accs : List OpE → List Ev
  | [] => []
  | o :: l => if o.rel then accs l else o.ev :: accs l
def posF : Nat → List OpE → List Int
  | _, [] => []
  | i, o :: l => if o.rel then posF (i + 1) l else (i : Int) :: posF (i + 1) l
theorem accs_append : ∀ l m : List OpE, accs (l ++ m) = accs l ++ accs m
  | [], _ => rfl
  | o :: l, m => by
    simp only [List.cons_append, accs, accs_append l m]
    split <;> rfl
theorem posF_append : ∀ (l m : List OpE) (i : Nat), posF i (l ++ m) = posF i l ++ posF (i + l.length) m
  | [], m, i => by simp [posF]
  | o :: l, m, i => by
    simp only [List.cons_append, posF, posF_append l m (i + 1), List.length_cons]
    rw [show i + 1 + l.length = i + (l.length + 1) by omega]
    split <;> rfl
theorem posF_length : ∀ (l : List OpE) (i : Nat), (posF i l).length = (accs l).length
  | [], _ => rfl
  | o :: l, i => by
    simp only [posF, accs]
    split
    · exact posF_length l _
    · simp [posF_length l _]
theorem accs_le : ∀ l : List OpE, (accs l).length ≤ l.length
  | [] => Nat.le_refl _
  | o :: l => by
    have := accs_le l
    simp only [accs, List.length_cons]
    split <;> simp <;> omega
theorem accs_take {ops : List OpE} {k : Nat} {o : OpE} (h : ops[k]? = some o) : accs (ops.take (k + 1)) = accs (ops.take k) ++ if o.rel then [] else [o.ev] := by
  rw [List.take_add_one, h, accs_append]
  simp [accs]
theorem posF_take {ops : List OpE} {k : Nat} {o : OpE} (h : ops[k]? = some o) : posF 0 (ops.take (k + 1)) = posF 0 (ops.take k) ++ if o.rel then [] else [(k : Int)] := by
  have hk := (List.getElem?_eq_some_iff.1 h).1
  rw [List.take_add_one, h, posF_append]
  have : (ops.take k).length = k := by simp; omega
  simp [posF, this]
theorem made_succ {ops : List OpE} {k : Nat} {o : OpE} (h : ops[k]? = some o) : made ops (k + 1) = made ops k + if o.rel then 0 else 1 := by
  show cnt (isAcc ops) k + (if isAcc ops k then 1 else 0) = _
  rw [show isAcc ops k = !o.rel by unfold isAcc; rw [h]]
  unfold made
  cases o.rel <;> rfl
theorem made_length (ops : List OpE) : ∀ k, k ≤ ops.length → (accs (ops.take k)).length = made ops k
  | 0, _ => by simp [accs, made, cnt]
  | k + 1, h => by
    obtain ⟨o, ho⟩ : ∃ o, ops[k]? = some o := ⟨ops[k], by simp⟩
    rw [accs_take ho, made_succ ho, List.length_append, made_length ops k (by omega)]
    split <;> simp
theorem made_all (ops : List OpE) : (accs ops).length = made ops ops.length := by
  have := made_length ops ops.length (Nat.le_refl _)
  rwa [List.take_length] at this
theorem made_mono (ops : List OpE) : ∀ {j k : Nat}, j ≤ k → made ops j ≤ made ops k := by
  intro j k h
  induction k with
  | zero => obtain rfl : j = 0 := by omega
            exact Nat.le_refl _
  | succ k ih =>
    by_cases e : j = k + 1
    · subst e; exact Nat.le_refl _
    · have := ih (by omega)
      show _ ≤ cnt (isAcc ops) k + _
      exact Nat.le_trans this (Nat.le_add_right _ _)
theorem evs_take (ops : List OpE) (k : Nat) (h : k ≤ ops.length) : (accs ops).take (made ops k) = accs (ops.take k) := by
  have h1 : accs ops = accs (ops.take k) ++ accs (ops.drop k) := by rw [← accs_append, List.take_append_drop]
  rw [h1, ← made_length ops k h, List.take_left']
  rfl
theorem evs_at {ops : List OpE} {k : Nat} {o : OpE} (h : ops[k]? = some o) (hr : o.rel = false) : (accs ops)[made ops k]? = some o.ev := by
  have hk := (List.getElem?_eq_some_iff.1 h).1
  have h1 : accs ops = accs (ops.take k) ++ accs (ops.drop k) := by rw [← accs_append, List.take_append_drop]
  have h2 : ops.drop k = o :: ops.drop (k + 1) := by
    rw [List.drop_eq_getElem_cons hk, (List.getElem?_eq_some_iff.1 h).2]
  rw [h1, h2, List.getElem?_append_right (by rw [made_length ops k (by omega)]; omega), made_length ops k (by omega), Nat.sub_self]
  simp [accs, hr]
theorem aps_at {ops : List OpE} {k : Nat} {o : OpE} (h : ops[k]? = some o) (hr : o.rel = false) : (posF 0 ops)[made ops k]? = some (k : Int) := by
  have hk := (List.getElem?_eq_some_iff.1 h).1
  have h1 : posF 0 ops = posF 0 (ops.take k) ++ posF (0 + (ops.take k).length) (ops.drop k) := by rw [← posF_append, List.take_append_drop]
  have h2 : ops.drop k = o :: ops.drop (k + 1) := by
    rw [List.drop_eq_getElem_cons hk, (List.getElem?_eq_some_iff.1 h).2]
  have h3 : (ops.take k).length = k := by simp; omega
  rw [h1, h2, List.getElem?_append_right (by rw [posF_length, made_length ops k (by omega)]; omega), posF_length, made_length ops k (by omega), Nat.sub_self, h3]
  simp [posF, hr]

/-! ### Releases -/
def relP (ops : List OpE) (j p : Nat) : Bool := match ops[p]? with | some o => o.rel && o.ix == (j : Int) | none => false
def relAt (ops : List OpE) (k : Nat) : Nat → Bool := fun j => anyB (relP ops j) k
def rpOf (ops : List OpE) : Nat → Nat → Int
  | 0, _ => -1
  | k + 1, j => if rpOf ops k j = -1 then (if relP ops j k then (k : Int) else -1) else rpOf ops k j
theorem rp_succ (ops : List OpE) (k j : Nat) : rpOf ops (k + 1) j = if rpOf ops k j = -1 then (if relP ops j k then (k : Int) else -1) else rpOf ops k j := rfl
theorem rp_lt (ops : List OpE) (j : Nat) : ∀ k, rpOf ops k j = -1 ∨ (0 ≤ rpOf ops k j ∧ rpOf ops k j < k)
  | 0 => .inl rfl
  | k + 1 => by
    have := rp_lt ops j k
    unfold rpOf
    split
    · split
      · right; omega
      · left; rfl
    · right; rcases this with h | h
      · contradiction
      · omega
theorem rel_rp_same (ops : List OpE) (j : Nat) : ∀ k, relAt ops k j = (rpOf ops k j != -1)
  | 0 => rfl
  | k + 1 => by
    show (relAt ops k j || relP ops j k) = _
    rw [rel_rp_same ops j k, rp_succ]
    by_cases h : rpOf ops k j = -1
    · rw [if_pos h, h]
      cases relP ops j k
      · rfl
      · simp
    · rw [if_neg h]
      have : (rpOf ops k j != -1) = true := by simpa using h
      rw [this, Bool.true_or]
theorem rel_rp (ops : List OpE) (j k : Nat) : ∀ n, k ≤ n → relAt ops k j = (rpOf ops n j != -1 && decide (rpOf ops n j < k)) := by
  intro n hn
  induction n with
  | zero =>
    obtain rfl : k = 0 := by omega
    rfl
  | succ n ih =>
    by_cases e : k = n + 1
    · subst e
      rw [rel_rp_same]
      rcases rp_lt ops j (n + 1) with h | h
      · rw [h]; rfl
      · rw [decide_eq_true h.2, Bool.and_true]
    · rw [ih (by omega)]
      by_cases h : rpOf ops n j = -1
      · have h2 : rpOf ops (n + 1) j = if relP ops j n then (n : Int) else -1 := by
          show (if rpOf ops n j = -1 then _ else _) = _
          rw [if_pos h]
        rw [h, h2]
        cases relP ops j n
        · rfl
        · simp
          omega
      · have h2 : rpOf ops (n + 1) j = rpOf ops n j := by
          show (if rpOf ops n j = -1 then _ else _) = _
          rw [if_neg h]
        rw [h2]
theorem relAt_acc {ops : List OpE} {k : Nat} {o : OpE} (h : ops[k]? = some o) (hr : o.rel = false) : relAt ops (k + 1) = relAt ops k := by
  funext j
  show (relAt ops k j || relP ops j k) = _
  rw [show relP ops j k = false by unfold relP; rw [h]; simp [hr], Bool.or_false]
theorem relAt_rel {ops : List OpE} {k i : Nat} {o : OpE} (h : ops[k]? = some o) (hr : o.rel = true) (hi : o.ix = (i : Int)) : relAt ops (k + 1) = relX (relAt ops k) i := by
  funext j
  show (relAt ops k j || relP ops j k) = (relAt ops k j || j == i)
  rw [show relP ops j k = (j == i) by
    unfold relP; rw [h]; simp only [hr, hi, Bool.true_and]
    rw [Bool.eq_iff_iff]; simp; omega]
/-- Each release is of an access made before. -/
def okOp (ops : List OpE) (k : Nat) : Prop := ∀ o, ops[k]? = some o → o.rel = true → 0 ≤ o.ix ∧ o.ix < (made ops k : Int)
theorem relAt_fresh {ops : List OpE} {k : Nat} (h : ∀ p, p < k → okOp ops p) : relAt ops k (made ops k) = false := by
  cases hc : relAt ops k (made ops k) with
  | false => rfl
  | true =>
    exfalso
    obtain ⟨p, hp, hr⟩ := (anyB_iff _ _).1 hc
    unfold relP at hr
    cases ho : ops[p]? with
    | none => rw [ho] at hr; cases hr
    | some o =>
      rw [ho] at hr
      simp only [Bool.and_eq_true, beq_iff_eq] at hr
      have h1 := (h p hp o ho hr.1).2
      have h2 := made_mono ops (show p ≤ k by omega)
      omega
/-- The model's row of releases behind k steps. -/
def rpsAt (ops : List OpE) (m k : Nat) : List Int := (List.range m).map (rpOf ops k)
/-- A conflict in the auditor is one in the model. -/
theorem conflict_model {ops : List OpE} {k : Nat} {o : OpE} (h : ops[k]? = some o) (hr : o.rel = false) (lc cv : Int) :
    conflict (stOf (accs (ops.take k)) (relAt ops k) lc cv) o.ev = cfM (accs ops) (posF 0 ops) (rpsAt ops (accs ops).length ops.length) (made ops k) := by
  have hk := (List.getElem?_eq_some_iff.1 h).1
  have hm : made ops k < (accs ops).length := (List.getElem?_eq_some_iff.1 (evs_at h hr)).1
  rw [← cfA_eq (accs ops) (posF 0 ops) (rpsAt ops (accs ops).length ops.length) (relAt ops k) (made ops k) hm (posF_length _ _) (by simp [rpsAt]) ?_]
  · unfold cfA
    rw [evs_at h hr, evs_take ops k (by omega)]
    rfl
  · intro j r a hj h1 h2
    rw [aps_at h hr] at h2
    cases h2
    have : r = rpOf ops ops.length j := by
      rw [rpsAt, List.getElem?_map, List.getElem?_range (by omega)] at h1
      cases h1; rfl
    rw [this]
    exact rel_rp ops j k ops.length (by omega)
theorem chain_model {ops : List OpE} {k : Nat} {o : OpE} (h : ops[k]? = some o) (hr : o.rel = false) (lc cv : Int) :
    chain (stOf (accs (ops.take k)) (relAt ops k) lc cv) o.ev = chM (accs ops) (made ops k) := by
  have hk := (List.getElem?_eq_some_iff.1 h).1
  rw [← chA_eq (accs ops) (relAt ops k)]
  unfold chA
  rw [evs_at h hr, evs_take ops k (by omega)]
  rfl
end Go.Proofs.Qxb6604372a
