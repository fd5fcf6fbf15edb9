/-
  FROM THE ROW's READING OF A SLICE OF PLAIN STRUCTS TO ITS CELLS.
-/
import Derived.Test.Qxb6604372aCopy
import Derived.OpenShut
import Derived.ShutString
import Derived.ChangeOld
import Derived.Below
import Derived.Deep.Slices
namespace Go.Proofs.Qxb6604372a
open Go.ChangeShapes Go.WideShapes Go.ChangeAt Go.RowKit

theorem list_of {α : Type} {p : Nat → α → Prop} : ∀ n : Nat, (∀ i, i < n → ∃ q, p i q) → ∃ ks : List α, ks.length = n ∧ ∀ i q, ks[i]? = some q → p i q
  | 0, _ => ⟨[], rfl, fun i q h => by simp at h⟩
  | n + 1, h => by
    obtain ⟨ks, h1, h2⟩ := list_of n fun i hi => h i (by omega)
    obtain ⟨q, hq⟩ := h n (by omega)
    refine ⟨ks ++ [q], by simp [h1], fun i q' hi => ?_⟩
    rw [List.getElem?_append] at hi
    split at hi
    · exact h2 i q' hi
    · rename_i hge
      have : i - ks.length = 0 := by
        by_cases e : i - ks.length = 0
        · exact e
        · rw [List.getElem?_eq_none (by simp; omega)] at hi; cases hi
      rw [this] at hi
      simp at hi
      subst hi
      have : i = n := by omega
      subst this
      exact hq
section
variable {H : Type} {enc : TypeId × Value → H} {w : World} {base : Nat} {spare : Nat → Bool} {held : Bool}
theorem cells?_get {a : Addr} {n : Nat} {cs : List Value} (h : w.cells? base a n = some cs) (j : Nat) (v : Value) (hj : cs[j]? = some v) : w.cell? (a.add j) = some v := by
  unfold World.cells? at h
  split at h
  · have hl := mapM_some_length h
    have hjl : j < cs.length := (List.getElem?_eq_some_iff.1 hj).1
    have hjn : j < n := by simp at hl; omega
    have := mapM_some_get h j j (by rw [List.getElem?_range hjn])
    rw [this, hj]
  · cases h
theorem plain_of_cell {x : Addr} {v : Value} (h : w.cell? x = some v) : x = ⟨x.block, x.off, none⟩ := by
  obtain ⟨b, o, sp⟩ := x
  cases sp with
  | none => rfl
  | some s =>
    simp only [World.cell?] at h
    split at h
    · simp at h
    · cases h
theorem elems_of_trod {α : Type} {m : Nat} {f : α → List Value} {t e : TypeId} {fuel : Nat} {a : Option Addr} {len cap : Nat} {x : DataW H × List MemPlace} (ht : Try.prog.underlying t = some (.slice e)) (hm : Try.prog.cellsOf e = m) (hm0 : 0 < m) (hf : ∀ q, (f q).length = m)
    (hread : ∀ (cs : List Value) (n : Nat) (y : DataW H × List MemPlace), DataW.trod enc Try.prog w base spare held n e cs = some y → ∃ q, f q = cs)
    (h : DataW.trod enc Try.prog w base spare held fuel t [.slice a len cap] = some x) : ∃ ks : List α, ElemsAt m f w a len ks ∧ len ≤ maxLen := by
  rcases Deep.open_slice ht h with ⟨hcs, _⟩ | ⟨x', len', cap', mm, n, D, Pl, hcs, hb, hl, hmx, hmm, _, hcell⟩
  · simp at hcs
    obtain ⟨rfl, rfl, rfl⟩ := hcs
    exact ⟨[], ⟨rfl, fun _ => rfl, fun i q h => by simp at h⟩, Nat.zero_le _⟩
  · simp at hcs
    obtain ⟨rfl, rfl, rfl⟩ := hcs
    have hlm : len ≤ mm := by rw [hmm]; split <;> omega
    obtain ⟨ks, h1, h2⟩ := list_of (p := fun i q => ∀ j v, (f q)[j]? = some v → w.cell? (x'.add (i * m + j)) = some v) len (fun i hi => by
      obtain ⟨cs', hc1, hc2⟩ := hcell i (by omega)
      obtain ⟨q, hq⟩ := hread cs' n _ hc2
      refine ⟨q, fun j v hv => ?_⟩
      rw [hm] at hc1
      rw [← Deep.add_add]
      exact cells?_get hc1 j v (by rw [← hq]; exact hv))
    refine ⟨ks, ⟨h1, (fun e => by cases e), fun i q hq => ?_⟩, by omega⟩
    have hpl : x' = ⟨x'.block, x'.off, none⟩ := by
      have h0 : 0 < ks.length := by have := (List.getElem?_eq_some_iff.1 hq).1; omega
      obtain ⟨q0, hq0⟩ : ∃ q0, ks[0]? = some q0 := ⟨ks[0], by simp⟩
      obtain ⟨v0, hv0⟩ : ∃ v0, (f q0)[0]? = some v0 := ⟨(f q0)[0]'(by rw [hf]; exact hm0), by simp⟩
      have := h2 0 q0 hq0 0 v0 hv0
      simp [Addr.add] at this
      exact plain_of_cell this
    refine ⟨x'.block, x'.off, by rw [← hpl], fun j v hv => ?_⟩
    have := h2 i q hq j v hv
    rw [hpl] at this
    unfold Addr.add at this
    split at this
    · rename_i e; rw [show x'.off + i * m + j = x'.off by omega]; exact this
    · rw [Nat.add_assoc]; exact this
theorem take1 {cs : List Value} {o : Nat} {v : Value} (h : (cs.drop o).take 1 = [v]) : cs[o]? = some v := by
  have : ((cs.drop o).take 1)[0]? = some v := by rw [h]; rfl
  rw [List.getElem?_take] at this
  simpa using this
theorem cells3 : Try.prog.cellsOf 3 = 1 := by kernel_rfl
theorem cells4 : Try.prog.cellsOf 4 = 1 := by kernel_rfl
theorem field_int {t : TypeId} {fs : Array Field} {n : Nat} {cs : List Value} {y : DataW H × List MemPlace} (ht : Try.prog.underlying t = some (.struct fs)) (h : DataW.trod enc Try.prog w base spare held n t cs = some y) (i : Nat) (o : Nat) (hf : (fs[i]?).map (fun f => (f.type, f.offset)) = some (3, o)) :
    ∃ m, cs[o]? = some (.int .i64 m) := by
  obtain ⟨xs, k, _, _, _, hl, hfs⟩ := DataW.trod_struct ht h
  obtain ⟨fd, hfd, he⟩ := Option.map_eq_some_iff.1 hf
  simp only [Prod.mk.injEq] at he
  have h1 := hfs i fd hfd
  rw [he.1, he.2, cells3] at h1
  have hi : i < xs.length := by rw [hl]; exact (Array.getElem?_eq_some_iff.1 hfd).1
  rw [List.getElem?_eq_getElem hi] at h1
  obtain ⟨m, hm, _⟩ := DataW.trod_int Try.underlying3 h1
  exact ⟨m, take1 hm⟩
theorem field_bool {t : TypeId} {fs : Array Field} {n : Nat} {cs : List Value} {y : DataW H × List MemPlace} (ht : Try.prog.underlying t = some (.struct fs)) (h : DataW.trod enc Try.prog w base spare held n t cs = some y) (i : Nat) (o : Nat) (hf : (fs[i]?).map (fun f => (f.type, f.offset)) = some (4, o)) :
    ∃ m, cs[o]? = some (.bool m) := by
  obtain ⟨xs, k, _, _, _, hl, hfs⟩ := DataW.trod_struct ht h
  obtain ⟨fd, hfd, he⟩ := Option.map_eq_some_iff.1 hf
  simp only [Prod.mk.injEq] at he
  have h1 := hfs i fd hfd
  rw [he.1, he.2, cells4] at h1
  have hi : i < xs.length := by rw [hl]; exact (Array.getElem?_eq_some_iff.1 hfd).1
  rw [List.getElem?_eq_getElem hi] at h1
  obtain ⟨m, hm, _⟩ := DataW.trod_bool Try.underlying4 h1
  exact ⟨m, take1 hm⟩
theorem struct_len {t : TypeId} {fs : Array Field} {n : Nat} {cs : List Value} {y : DataW H × List MemPlace} (ht : Try.prog.underlying t = some (.struct fs)) (h : DataW.trod enc Try.prog w base spare held n t cs = some y) : cs.length = Try.prog.cellsOf t := by
  obtain ⟨xs, k, _, _, hl, _⟩ := DataW.trod_struct ht h
  exact hl
theorem cells29 : Try.prog.cellsOf 29 = 3 := by kernel_rfl
theorem read29 (cs : List Value) (n : Nat) (y : DataW H × List MemPlace) (h : DataW.trod enc Try.prog w base spare held n 29 cs = some y) : ∃ q, keyCells q = cs := by
  obtain ⟨a, ha⟩ := field_int Try.underlying29 h 0 0 rfl
  obtain ⟨b, hb⟩ := field_int Try.underlying29 h 1 1 rfl
  obtain ⟨c, hc⟩ := field_int Try.underlying29 h 2 2 rfl
  have hl := struct_len Try.underlying29 h
  rw [cells29] at hl
  refine ⟨(a, b, c), ?_⟩
  match cs, hl with
  | [x, y, z], _ =>
    simp at ha hb hc
    simp [keyCells, ha, hb, hc]
end
end Go.Proofs.Qxb6604372a
