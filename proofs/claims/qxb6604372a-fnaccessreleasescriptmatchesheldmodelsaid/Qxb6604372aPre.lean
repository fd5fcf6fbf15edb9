/-
  A REGION THAT DRAWS ITS ORDER, WHOSE LAST OPERATIONS WAIT FOR ALL THE OTHERS: the others are walked first, as a region of their own; then the last ones.
-/
import Derived.Test.Qxb6604372aMid
import Derived.OrdersHeld
namespace Go.Proofs.Qxb6604372a
open Go

section
variable {P : Program} {md : Region.Mode}
theorem getD_app (l r : Array Bool) (i : Nat) (d : Bool) : (l ++ r).getD i d = if i < l.size then l.getD i d else r.getD (i - l.size) d := by
  simp only [Array.getD_eq_getD_getElem?, Array.getElem?_append]
  split <;> rfl
theorem getD_rep (k i : Nat) : (Array.replicate k false).getD i false = false := by
  simp only [Array.getD_eq_getD_getElem?, Array.getElem?_replicate]
  split <;> rfl

/-- The first m wait for earlier ones alone and bear no guard; each of the rest waits for all of the first m. -/
def preOk (md : Region.Mode) (l : List Oper) (m : Nat) : Bool :=
  decide (m ≤ l.length) &&
  ((List.range m).all fun i => ((l[i]?).map fun o => o.guard.isNone && o.after.all fun e => !Region.binds md e || decide (e.on < i)).getD false) &&
  ((List.range l.length).all fun i => decide (i < m) || (List.range m).all fun j => ((l[i]?).map fun o => o.after.any fun e => Region.binds md e && e.on == j).getD false)

theorem all_congr' {α : Type} (f g : α → Bool) : ∀ l : List α, (∀ x ∈ l, f x = g x) → l.all f = l.all g
  | [], _ => rfl
  | x :: l, h => by rw [List.all_cons, List.all_cons, h x (by simp), all_congr' f g l fun y hy => h y (by simp [hy])]
theorem take_get (l : List Oper) (m i : Nat) (h : i < m) : (l.take m).toArray[i]? = l.toArray[i]? := by
  simp [h]

theorem ready_pre (l : List Oper) (m : Nat) (hok : preOk md l m = true) (listed : Array Bool) (hs : listed.size = m) (j : Nat) (hj : j < m) (hpend : listed.getD j true = false) :
    Region.ready md l.toArray (listed ++ Array.replicate (l.length - m) false) = Region.ready md (l.take m).toArray listed := by
  simp only [preOk, Bool.and_eq_true, decide_eq_true_eq] at hok
  obtain ⟨⟨hml, h1⟩, h2⟩ := hok
  unfold Region.ready
  have hsz : l.toArray.size = m + (l.length - m) := by simp; omega
  have hsz2 : (l.take m).toArray.size = m := by simp; omega
  rw [hsz, hsz2, List.range_add, List.filter_append]
  have e2 : ((List.range (l.length - m)).map (m + ·)).filter (fun i => !(listed ++ Array.replicate (l.length - m) false).getD i true && ((l.toArray[i]?).map (·.after.all fun e => !Region.binds md e || (listed ++ Array.replicate (l.length - m) false).getD e.on false)).getD false) = [] := by
    rw [List.filter_eq_nil_iff]
    intro i hi
    obtain ⟨i', hi', rfl⟩ := List.mem_map.1 hi
    have hlt : m + i' < l.length := by have := List.mem_range.1 hi'; omega
    have := List.all_eq_true.1 h2 (m + i') (List.mem_range.2 hlt)
    simp only [Bool.or_eq_true, decide_eq_true_eq] at this
    rcases this with h | h
    · omega
    · have hjj := List.all_eq_true.1 h j (List.mem_range.2 hj)
      rw [List.getElem?_eq_getElem hlt] at hjj
      simp only [Option.map_some, Option.getD_some] at hjj
      obtain ⟨e, he, hbe⟩ := List.any_eq_true.1 (by simpa [Array.any_toList] using hjj : (l[m + i'].after.toList.any fun e => Region.binds md e && e.on == j) = true)
      simp only [Bool.and_eq_true, beq_iff_eq] at hbe
      have hne : (l[m + i'].after.all fun e => !Region.binds md e || (listed ++ Array.replicate (l.length - m) false).getD e.on false) = false := by
        rw [← Array.all_toList, List.all_eq_false]
        refine ⟨e, he, ?_⟩
        rw [hbe.1, hbe.2, getD_app, if_pos (by omega)]
        have : listed.getD j false = false := by
          have hjl : j < listed.size := by omega
          simp only [Array.getD_eq_getD_getElem?, Array.getElem?_eq_getElem hjl, Option.getD_some] at hpend ⊢
          exact hpend
        rw [this]; simp
      rw [show l.toArray[m + i']? = some l[m + i'] from by simp [hlt]]
      simp only [Option.map_some, Option.getD_some, hne, Bool.and_false]
      simp
  rw [e2, List.append_nil]
  apply List.filter_congr
  intro i hi
  have hi' := List.mem_range.1 hi
  rw [getD_app, if_pos (by omega), take_get l m i hi']
  have hil : i < l.length := by omega
  have hop := List.all_eq_true.1 h1 i (List.mem_range.2 hi')
  rw [List.getElem?_eq_getElem hil] at hop
  simp only [Option.map_some, Option.getD_some, Bool.and_eq_true] at hop
  have : l.toArray[i]? = some l[i] := by simp [hil]
  rw [this]
  simp only [Option.map_some, Option.getD_some]
  congr 1
  rw [← Array.all_toList, ← Array.all_toList]
  apply all_congr'
  intro e he
  have := List.all_eq_true.1 (by rw [Array.all_toList]; exact hop.2 : (l[i].after.toList.all fun e => !Region.binds md e || decide (e.on < i)) = true) e he
  simp only [Bool.or_eq_true, decide_eq_true_eq] at this
  rcases this with h | h
  · rw [h]; simp
  · rw [getD_app, if_pos (by omega)]

theorem upon_then {o : Oper} {a : Act} {w : World} {K : Act → World → Prop} {N : Act → World → Prop} {Q : Exit → Act → World → Prop} (h : o.wp P a w K (Exit.then N Q)) : o.wp P a w K Q := by
  unfold Oper.wp at *
  generalize (execOp a.eval o).run P w = r at *
  cases r with
  | ok n w' =>
    cases n with
    | enter f args => exact Calls.mono h fun e w'' he => by cases e <;> exact he
    | _ => exact h
  | halt x w' => cases x <;> exact h
theorem wpOp_pre {l : List Oper} {m : Nat} {i : Nat} (hi : i < m) (hg : ∀ o, l[i]? = some o → o.guard = none) {N : Act → World → Prop} {Q : Exit → Act → World → Prop} {K K' : Act → World → Prop} (hK : ∀ a w, K a w → K' a w) {a : Act} {w : World}
    (h : wpOp P (l.take m).toArray (Exit.then N Q) i K a w) : wpOp P l.toArray Q i K' a w := by
  unfold wpOp at *
  rw [take_get l m i hi] at h
  cases ho : l.toArray[i]? with
  | none => rw [ho] at h; exact hK _ _ h
  | some o =>
    rw [ho] at h
    have hgo := hg o (by simpa using ho)
    simp only [Region.wanted, hgo, if_true] at h ⊢
    rcases h with h | ⟨h1, h2⟩
    · exact .inl (upon_then (Oper.wp_mono hK h))
    · exact .inr ⟨h1, h2⟩
theorem count_set (l : Array Bool) (i : Nat) (hi : i < l.size) (hf : l[i] = false) (n : Nat) (h : l.toList.count false = n + 1) : (l.setIfInBounds i true).toList.count false = n := by
  have hl : i < l.toList.length := by simpa using hi
  rw [Array.toList_setIfInBounds, List.count_set hl]
  have : l.toList[i] = false := by simpa using hf
  simp [this, h]
theorem all_true (l : Array Bool) (m : Nat) (hs : l.size = m) (h : l.toList.count false = 0) : l = Array.replicate m true := by
  apply Array.ext_getElem?
  intro i
  rw [Array.getElem?_replicate]
  split
  · have hi : i < l.size := by omega
    rw [Array.getElem?_eq_getElem hi]
    have hm : ¬ false ∈ l.toList := List.count_eq_zero.1 h
    cases hb : l[i] with
    | true => rfl
    | false => exact absurd (by rw [← hb]; simp) hm
  · rw [Array.getElem?_eq_none (by omega)]
/-- The first m as a region of their own, then the rest. -/
theorem wpAny_pre (l : List Oper) (m : Nat) (hok : preOk md l m = true) (Q : Exit → Act → World → Prop) :
    ∀ (fuel : Nat) (listed : Array Bool) (a : Act) (w : World), listed.size = m → listed.toList.count false = fuel →
      wpAny P md (l.take m).toArray (Exit.then (fun a w => wpAny P md l.toArray Q (l.length - m) (Array.replicate m true ++ Array.replicate (l.length - m) false) a w) Q) fuel listed a w →
      wpAny P md l.toArray Q (fuel + (l.length - m)) (listed ++ Array.replicate (l.length - m) false) a w := by
  intro fuel
  induction fuel with
  | zero =>
    intro listed a w hs hc h
    rw [all_true listed m hs hc, Nat.zero_add]
    exact h.2
  | succ fuel ih =>
    intro listed a w hs hc h
    have hmem : false ∈ listed.toList := by
      apply List.count_pos_iff.1; omega
    -- the least that is not listed
    obtain ⟨j, hjl, hjf, hmin⟩ : ∃ j, j < listed.size ∧ listed.getD j true = false ∧ ∀ i, i < j → listed.getD i false = true := by
      have hex : ∃ j, j < listed.size ∧ listed.getD j true = false := by
        obtain ⟨j, hj⟩ := List.mem_iff_getElem?.1 hmem
        have hjl : j < listed.size := by have := (List.getElem?_eq_some_iff.1 hj).1; simpa using this
        refine ⟨j, hjl, ?_⟩
        rw [Array.getD_eq_getD_getElem?, ← Array.getElem?_toList, hj]; rfl
      have key : ∀ n, (∃ j, j ≤ n ∧ j < listed.size ∧ listed.getD j true = false) → ∃ j, j < listed.size ∧ listed.getD j true = false ∧ ∀ i, i < j → listed.getD i false = true := by
        intro n
        induction n with
        | zero =>
          rintro ⟨j, h1, h2, h3⟩
          exact ⟨j, h2, h3, fun i hi => by omega⟩
        | succ n ihn =>
          rintro ⟨j, h1, h2, h3⟩
          by_cases hlow : ∃ j, j ≤ n ∧ j < listed.size ∧ listed.getD j true = false
          · exact ihn hlow
          · refine ⟨j, h2, h3, fun i hi => ?_⟩
            have hil : i < listed.size := by omega
            cases hb : listed.getD i true with
            | false => exact absurd ⟨i, by omega, hil, hb⟩ hlow
            | true =>
              simp only [Array.getD_eq_getD_getElem?, Array.getElem?_eq_getElem hil, Option.getD_some] at hb ⊢
              exact hb
      obtain ⟨j, h1, h2⟩ := hex
      exact key j ⟨j, Nat.le_refl _, h1, h2⟩
    have hr := ready_pre l m hok listed hs j (by omega) hjf
    have hok' := hok
    simp only [preOk, Bool.and_eq_true, decide_eq_true_eq] at hok'
    obtain ⟨⟨hml, h1⟩, _⟩ := hok'
    have hguard : ∀ i, i < m → ∀ o, l[i]? = some o → o.guard = none ∧ (o.after.all fun e => !Region.binds md e || decide (e.on < i)) = true := fun i hi o ho => by
      have := List.all_eq_true.1 h1 i (List.mem_range.2 hi)
      rw [ho] at this
      simp only [Option.map_some, Option.getD_some, Bool.and_eq_true] at this
      exact ⟨Option.isNone_iff_eq_none.1 this.1, this.2⟩
    rw [show fuel + 1 + (l.length - m) = (fuel + (l.length - m)) + 1 by omega]
    refine ⟨fun h0 => ?_, fun i hi => ?_⟩
    · exfalso
      rw [hr] at h0
      have hjm : j < m := by omega
      have hjlen : j < l.length := by omega
      have : j ∈ Region.ready md (l.take m).toArray listed := by
        unfold Region.ready
        rw [List.mem_filter]
        refine ⟨List.mem_range.2 (by simp; omega), ?_⟩
        rw [hjf, take_get l m j hjm, show l.toArray[j]? = some l[j] from by simp [hjlen]]
        simp only [Bool.not_false, Bool.true_and, Option.map_some, Option.getD_some]
        have hall := (hguard j hjm l[j] (by simp [hjlen])).2
        rw [← Array.all_toList] at hall ⊢
        rw [List.all_eq_true] at hall ⊢
        intro e he
        have := hall e he
        simp only [Bool.or_eq_true, decide_eq_true_eq] at this ⊢
        rcases this with h | h
        · exact .inl h
        · exact .inr (hmin _ h)
      rw [h0] at this
      cases this
    · rw [hr] at hi
      have hi2 := hi
      unfold Region.ready at hi2
      rw [List.mem_filter] at hi2
      have him : i < m := by have := List.mem_range.1 hi2.1; simp at this; omega
      have hlf : listed.getD i true = false := by
        have := hi2.2
        simp only [Bool.and_eq_true, Bool.not_eq_true'] at this
        exact this.1
      have hil : i < listed.size := by omega
      have hli : listed[i] = false := by
        simp only [Array.getD_eq_getD_getElem?, Array.getElem?_eq_getElem hil, Option.getD_some] at hlf
        exact hlf
      refine wpOp_pre him (fun o ho => (hguard i him o ho).1) (fun a' w' hk => ?_) (h.2 i hi)
      have := ih (listed.setIfInBounds i true) a' w' (by simpa using hs) (count_set listed i hil hli fuel hc) hk
      rw [show (listed ++ Array.replicate (l.length - m) false).setIfInBounds i true = listed.setIfInBounds i true ++ Array.replicate (l.length - m) false from ?_]
      · exact this
      · apply Array.ext_getElem?
        intro x
        rw [Array.getElem?_setIfInBounds, Array.getElem?_append, Array.getElem?_append, Array.getElem?_setIfInBounds]
        simp only [Array.size_setIfInBounds, Array.size_append]
        by_cases hx : i = x
        · subst hx
          rw [if_pos rfl, if_pos (by omega), if_pos hil, if_pos rfl, if_pos hil]
        · rw [if_neg hx, if_neg hx]
/-- THE LAW. -/
theorem wp_region_pre {id : Nat} {l : List Oper} {Q : Exit → Act → World → Prop} {a : Act} {w : World} (m : Nat) (S : World → Prop) (hm : P.follows .mixedOrders = true) (hok : preOk .any l m = true) (hS : S w.drew)
    (h : S w.drew → wpAnyH P .any (l.take m).toArray (Exit.then (fun a w => wpAny P .any l.toArray Q (l.length - m) (Array.replicate m true ++ Array.replicate (l.length - m) false) a w) Q) S m (Array.replicate m false) a w.drew) :
    (Code.region id l.toArray true).wp P Q a w := by
  have hml : m ≤ l.length := by
    simp only [preOk, Bool.and_eq_true, decide_eq_true_eq] at hok
    exact hok.1.1
  refine wp_region_any hm ?_
  have := wpAny_pre l m hok Q m (Array.replicate m false) a w.drew (by simp) (by simp) (wpAny_of_held _ _ _ _ (h hS))
  rw [show l.toArray.size = m + (l.length - m) by simp; omega]
  rw [show Array.replicate (m + (l.length - m)) false = Array.replicate m false ++ Array.replicate (l.length - m) false by simp]
  exact this
/-- 'wpAnyH_take', the slot named. -/
theorem take_at {ops : Array Oper} {Q : Exit → Act → World → Prop} {S : World → Prop} (i d : Nat) {oi : Oper} {v : Value} {fuel : Nat} {listed : Array Bool} {a : Act} {w : World} (hi : ops[i]? = some oi) (hd : oi.dst = some d)
    (hs : Region.noSelect ops = true) (hf : Region.free md ops listed i = true) (hr : (Region.ready md ops listed).contains i = true)
    (hQ : ∀ c a w, Q (.panic c) (a.put oi.dst v) w → Q (.panic c) a w) (hy : YieldsIf P ops S oi v a) (hS : S w)
    (h : wpAnyH P md ops Q S fuel (listed.setIfInBounds i true) (a.put (some d) v) w) : wpAnyH P md ops Q S (fuel + 1) listed a w :=
  wpAnyH_take hi hs hf hr hQ hy hS (by rw [hd]; exact h)
end
end Go.Proofs.Qxb6604372a
