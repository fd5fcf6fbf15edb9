/-
  PLAIN for the laws on histories: conflicts and chains, counted from the list of accesses alone.
-/
import Derived.Test.Qxb6604372aScr
namespace Go.Proofs.Qxb6604372a

/-- Does p take one below k. -/
def anyB (p : Nat → Bool) : Nat → Bool
  | 0 => false
  | k + 1 => anyB p k || p k
theorem anyB_iff (p : Nat → Bool) : ∀ k, anyB p k = true ↔ ∃ j, j < k ∧ p j = true
  | 0 => by simp [anyB]
  | k + 1 => by
    rw [anyB, Bool.or_eq_true, anyB_iff p k]
    constructor
    · rintro (⟨j, h, hp⟩ | hp)
      · exact ⟨j, by omega, hp⟩
      · exact ⟨k, by omega, hp⟩
    · rintro ⟨j, h, hp⟩
      by_cases e : j = k
      · subst e; exact .inr hp
      · exact .inl ⟨j, by omega, hp⟩

/-- Access h (released at r, or -1) stands in the way of e, made at a. -/
def cfJ (e h : Ev) (r a : Int) : Bool := (h.site == e.site && h.page == e.page) && (!(r != -1 && decide (r < a)) && (h.txn != e.txn && (e.upd || h.upd)))
def chJ (e h : Ev) : Bool := h.bor && (h.txn == e.lt && h.n == e.ln)
def cfP (evs : List Ev) (rps : List Int) (e : Ev) (a : Int) (j : Nat) : Bool := match evs[j]?, rps[j]? with | some h, some r => cfJ e h r a | _, _ => false
def chP (evs : List Ev) (e : Ev) (j : Nat) : Bool := match evs[j]? with | some h => chJ e h | _ => false
def cfM (evs : List Ev) (aps rps : List Int) (k : Nat) : Bool := match evs[k]?, aps[k]? with | some e, some a => anyB (cfP evs rps e a) k | _, _ => false
def chM (evs : List Ev) (k : Nat) : Bool := match evs[k]? with | some e => e.bor && anyB (chP evs e) k | _ => false

theorem borFrom_empty (k : K2) : ∀ (l : List Ev) (i : Nat), (borFrom k i l).isEmpty = !(l.any fun e => e.bor && e.who == k)
  | [], _ => rfl
  | e :: l, i => by
    simp only [borFrom, List.any_cons]
    split
    · rename_i h; rw [h]; rfl
    · rename_i h
      have h' : (e.bor && e.who == k) = false := by simpa using h
      rw [h', Bool.false_or]
      exact borFrom_empty k l (i + 1)
theorem any_iff_get {l : List Ev} {f : Ev → Bool} : l.any f = true ↔ ∃ (j : Nat) (e : Ev), l[j]? = some e ∧ f e = true := by
  rw [List.any_eq_true]
  constructor
  · rintro ⟨e, he, hf⟩
    obtain ⟨j, hj⟩ := List.mem_iff_getElem?.1 he
    exact ⟨j, e, hj, hf⟩
  · rintro ⟨j, e, he, hf⟩
    exact ⟨e, List.mem_of_getElem? he, hf⟩
theorem take_getE {evs : List Ev} {k j : Nat} {h : Ev} : (evs.take k)[j]? = some h ↔ j < k ∧ evs[j]? = some h := by
  by_cases hn : j < k
  · rw [List.getElem?_take, if_pos hn]
    exact ⟨fun h => ⟨hn, h⟩, fun h => h.2⟩
  · rw [List.getElem?_take, if_neg hn]
    exact ⟨fun h => (by cases h), fun h => absurd h.1 hn⟩
theorem chA_eq (evs : List Ev) (rel : Nat → Bool) (k : Nat) : chA evs rel k = chM evs k := by
  unfold chA chM
  cases he : evs[k]? with
  | none => rfl
  | some e =>
    simp only [chain, stOf, bors, borFrom_empty, Bool.not_not]
    congr 1
    rw [Bool.eq_iff_iff, any_iff_get, anyB_iff]
    constructor
    · rintro ⟨j, h, hj, hp⟩
      obtain ⟨h1, h2⟩ := take_getE.1 hj
      refine ⟨j, h1, ?_⟩
      simp only [chP, h2, chJ]
      simpa [Ev.who, Ev.lend] using hp
    · rintro ⟨j, h1, hp⟩
      cases h2 : evs[j]? with
      | none => simp [chP, h2] at hp
      | some h =>
        refine ⟨j, h, take_getE.2 ⟨h1, h2⟩, ?_⟩
        simp only [chP, h2, chJ] at hp
        simpa [Ev.who, Ev.lend] using hp
theorem cfA_eq (evs : List Ev) (aps rps : List Int) (rel : Nat → Bool) (k : Nat) (hk : k < evs.length) (hl1 : aps.length = evs.length) (hl2 : rps.length = evs.length)
    (hr : ∀ j r a, j < k → rps[j]? = some r → aps[k]? = some a → rel j = (r != -1 && decide (r < a))) : cfA evs rel k = cfM evs aps rps k := by
  unfold cfA cfM
  obtain ⟨e, he⟩ : ∃ e, evs[k]? = some e := ⟨evs[k], by simp⟩
  obtain ⟨a, ha⟩ : ∃ a, aps[k]? = some a := ⟨aps[k], by simp⟩
  rw [he, ha]
  simp only [conflict, stOf]
  rw [Bool.eq_iff_iff, List.any_eq_true, anyB_iff]
  constructor
  · rintro ⟨x, hx, hh⟩
    obtain ⟨j, h, rfl, hj, hp⟩ := mem_idx hx
    obtain ⟨h1, h2⟩ := take_getE.1 hj
    obtain ⟨r, hrr⟩ : ∃ r, rps[j]? = some r := ⟨rps[j]'(by omega), by simp⟩
    refine ⟨j, h1, ?_⟩
    have hm : (evs.take k |>.map Ev.acc)[j]? = some h.acc := by rw [List.getElem?_map, hj]; rfl
    simp only [hit, Int.toNat_natCast, hm] at hh
    simp only [cfP, h2, hrr, cfJ]
    rw [hr j r a h1 hrr ha] at hp
    simp only [Bool.and_eq_true] at hp hh ⊢
    refine ⟨?_, hp.2, ?_, ?_⟩
    · have := hp.1
      simpa [Ev.pk] using this
    · simpa [Ev.acc] using hh.1
    · simpa [Ev.acc] using hh.2
  · rintro ⟨j, h1, hp⟩
    obtain ⟨h, h2⟩ : ∃ e, evs[j]? = some e := ⟨evs[j]'(by omega), by simp⟩
    obtain ⟨r, hrr⟩ : ∃ r, rps[j]? = some r := ⟨rps[j]'(by omega), by simp⟩
    simp only [cfP, h2, hrr, cfJ] at hp
    simp only [Bool.and_eq_true] at hp
    have hj := take_getE.2 ⟨h1, h2⟩
    refine ⟨(j : Int), List.mem_of_getElem? (idx_at hj ?_).1, ?_⟩
    · rw [hr j r a h1 hrr ha, Bool.and_eq_true]
      exact ⟨by simpa [Ev.pk] using hp.1, hp.2.1⟩
    · have hm : (evs.take k |>.map Ev.acc)[j]? = some h.acc := by rw [List.getElem?_map, hj]; rfl
      simp only [hit, Int.toNat_natCast, hm, Bool.and_eq_true]
      exact ⟨by simpa [Ev.acc] using hp.2.2.1, by simpa [Ev.acc] using hp.2.2.2⟩
end Go.Proofs.Qxb6604372a
