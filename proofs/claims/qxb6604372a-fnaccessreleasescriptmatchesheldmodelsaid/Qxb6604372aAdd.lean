/-
  THE THREE FIND-OR-MAKE METHODS over 'Inv'.
-/
import Derived.Test.Qxb6604372aFind
namespace Go.Proofs.Qxb6604372a
open Go.ChangeShapes Go.WideShapes Go.ChangeAt Go.RowKit

def tagAt (own : Nat → Option Tag) (n : Nat) (t : Tag) : Nat → Option Tag := fun b => if b = n then some t else own b
theorem tagAt_same (own : Nat → Option Tag) (n : Nat) (t : Tag) : tagAt own n t n = some t := by simp [tagAt]
theorem tagAt_other (own : Nat → Option Tag) {n b : Nat} (t : Tag) (h : b ≠ n) : tagAt own n t b = own b := by simp [tagAt, h]
theorem tagAt_le {own : Nat → Option Tag} {n : Nat} (t : Tag) (h : own n = none) : OwnLe own (tagAt own n t) := by
  intro b u hb
  by_cases e : b = n
  · rw [e, h] at hb; cases hb
  · rw [tagAt_other _ _ e]; exact hb

section
variable {base : Nat} {L : Lay} {s : St} {w w' : World}
theorem Inv.fresh (h : Inv base L s w) {n : Nat} (hn : w.heap.size ≤ n) : L.own n = none := by
  cases ho : L.own n with
  | none => rfl
  | some t => have := (h.lt n t ho).2; omega
theorem Inv.base_le (h : Inv base L s w) : base ≤ w.heap.size := by have := h.lt _ _ h.tA; omega
theorem fr_grown {r : Nat} {t : Tag} (hr : L.own r = some t) (hg : w.grownBy w' (some r)) : Fr L.own w w' :=
  ⟨hg.os, hg.tape, hg.output, hg.size, fun b hb ho => hg.block b hb (fun e => by cases e; rw [hr] at ho; cases ho)⟩
/-- A block of another tag than the one that was written is as it was. -/
theorem Inv.kept_other (h : Inv base L s w) {r : Nat} {t : Tag} (hr : L.own r = some t) (hg : w.grownBy w' (some r)) {b : Nat} {u : Tag} (hb : L.own b = some u) (hne : u ≠ t) : w'.heap[b]? = w.heap[b]? :=
  hg.block b (h.lt b u hb).2 (fun e => by cases e; rw [hr] at hb; cases hb; exact hne rfl)

theorem row_nil (base : Nat) (own : Nat → Option Tag) (w : World) (tag : Tag) (e : TypeId) (size : Nat) : Row base own w tag e size (.slice none 0 0) 0 [] :=
  ⟨⟨by simp, .inl ⟨rfl, rfl⟩⟩, fun g hg => by simp [Value.ownBlock] at hg⟩

theorem lookup_snoc {K : Type} [BEq K] [LawfulBEq K] (l : List (K × Nat)) (k k' : K) (b : Nat) : (l ++ [(k, b)]).lookup k' = (l.lookup k').or (if k' == k then some b else none) := by
  rw [List.lookup_append]
  simp [List.lookup]
  cases h : k' == k <;> rfl
theorem lookup_snoc_some {K : Type} [BEq K] [LawfulBEq K] {l : List (K × Nat)} {k k' : K} {b b' : Nat} (h : (l ++ [(k, b)]).lookup k' = some b') : l.lookup k' = some b' ∨ (l.lookup k' = none ∧ k' = k ∧ b' = b) := by
  rw [lookup_snoc] at h
  cases hl : l.lookup k' with
  | some x => rw [hl] at h; simp at h; left; rw [h]
  | none =>
    rw [hl] at h
    right
    by_cases e : k' = k
    · subst e; simp at h; exact ⟨rfl, rfl, h.symm⟩
    · simp [e] at h
theorem lookup_snoc_none {K : Type} [BEq K] [LawfulBEq K] {l : List (K × Nat)} {k k' : K} {b : Nat} (h : (l ++ [(k, b)]).lookup k' = none) : l.lookup k' = none ∧ k' ≠ k := by
  rw [lookup_snoc] at h
  cases hl : l.lookup k' with
  | some x => rw [hl] at h; simp at h
  | none =>
    rw [hl] at h
    refine ⟨rfl, fun e => ?_⟩
    subst e; simp at h
theorem lookup_snoc_old {K : Type} [BEq K] [LawfulBEq K] {l : List (K × Nat)} {k k' : K} {b b' : Nat} (h : l.lookup k' = some b') : (l ++ [(k, b)]).lookup k' = some b' := by
  rw [lookup_snoc, h]; rfl
theorem lookup_snoc_new {K : Type} [BEq K] [LawfulBEq K] {l : List (K × Nat)} {k : K} {b : Nat} (h : l.lookup k = none) : (l ++ [(k, b)]).lookup k = some b := by
  rw [lookup_snoc, h]; simp

def Lay.addCoh (L : Lay) (k : K3) (n : Nat) : Lay := { L with own := tagAt L.own n (5, k), coh := L.coh ++ [(k, n)] }
def Lay.addPag (L : Lay) (k : K2) (n : Nat) : Lay := { L with own := tagAt L.own n (7, k.1, k.2, 0), pag := L.pag ++ [(k, n)] }
def Lay.addRun (L : Lay) (k : K2) (n : Nat) : Lay := { L with own := tagAt L.own n (10, k.1, k.2, 0), run := L.run ++ [(k, n)] }

theorem Inv.addCoh (h : Inv base L s w) (k : K3) (hl : L.coh.lookup k = none) {n : Nat} (hn : w.heap.size ≤ n) (hg : w.grownBy w' (some L.C)) (hb : w'.heap[n]? = some (.cells #[.slice none 0 0, .bool false] 69)) (hm : MapIs k3 w' L.C (L.coh ++ [(k, n)])) :
    Inv base (L.addCoh k n) s w' := by
  have hf := h.fresh hn
  have hle : OwnLe L.own (tagAt L.own n (5, k)) := tagAt_le _ hf
  have hk := fun {b : Nat} {u : Tag} (hb : L.own b = some u) (hne : u ≠ (2, 0, 0, 0)) => h.kept_other h.tC hg hb hne
  have hbase := h.base_le
  exact {
    lt := fun b t ho => by
      by_cases e : b = n
      · subst e; exact ⟨by omega, (Array.getElem?_eq_some_iff.1 hb).1⟩
      · have ho' : L.own b = some t := by rw [← tagAt_other L.own (5, k) e]; exact ho
        exact ⟨(h.lt b t ho').1, Nat.lt_of_lt_of_le (h.lt b t ho').2 hg.size⟩
    tA := hle _ _ h.tA, tR := hle _ _ h.tR, tC := hle _ _ h.tC, tP := hle _ _ h.tP
    aud := by
      obtain ⟨sv, h1, h2⟩ := h.aud
      exact ⟨sv, (hk h.tA (by simp)).trans h1, h2.kept hle fun g hg => hk hg (by simp)⟩
    R := h.R.of_block (hk h.tR (by simp))
    C := hm
    P := h.P.of_block (hk h.tP (by simp))
    coh := fun k' b e => by
      rcases lookup_snoc_some e with e' | ⟨e1, e2, e3⟩
      · exact (h.coh k' b e').kept hle fun g t ht hor => hk ht (by rcases hor with rfl | rfl <;> simp)
      · subst e2 e3
        rw [h.coh0 _ e1]
        exact ⟨tagAt_same .., _, hb, row_nil ..⟩
    pag := fun k' b e => (h.pag k' b e).kept hle fun g t ht hor => hk ht (by rcases hor with rfl | rfl | rfl <;> simp)
    run := fun k' b e => (h.run k' b e).kept hle fun g t ht hor => hk ht (by rcases hor with rfl | rfl <;> simp)
    coh0 := fun k' e => h.coh0 k' (lookup_snoc_none e).1
    pag0 := h.pag0
    run0 := h.run0 }
theorem Inv.addPag (h : Inv base L s w) (k : K2) (hl : L.pag.lookup k = none) {n : Nat} (hn : w.heap.size ≤ n) (hg : w.grownBy w' (some L.P)) (hb : w'.heap[n]? = some (.cells #[.slice none 0 0, .slice none 0 0] 99)) (hm : MapIs k2 w' L.P (L.pag ++ [(k, n)])) :
    Inv base (L.addPag k n) s w' := by
  have hf := h.fresh hn
  have hle : OwnLe L.own (tagAt L.own n (7, k.1, k.2, 0)) := tagAt_le _ hf
  have hk := fun {b : Nat} {u : Tag} (hb : L.own b = some u) (hne : u ≠ (3, 0, 0, 0)) => h.kept_other h.tP hg hb hne
  have hbase := h.base_le
  exact {
    lt := fun b t ho => by
      by_cases e : b = n
      · subst e; exact ⟨by omega, (Array.getElem?_eq_some_iff.1 hb).1⟩
      · have ho' : L.own b = some t := by rw [← tagAt_other L.own (7, k.1, k.2, 0) e]; exact ho
        exact ⟨(h.lt b t ho').1, Nat.lt_of_lt_of_le (h.lt b t ho').2 hg.size⟩
    tA := hle _ _ h.tA, tR := hle _ _ h.tR, tC := hle _ _ h.tC, tP := hle _ _ h.tP
    aud := by
      obtain ⟨sv, h1, h2⟩ := h.aud
      exact ⟨sv, (hk h.tA (by simp)).trans h1, h2.kept hle fun g hg => hk hg (by simp)⟩
    R := h.R.of_block (hk h.tR (by simp))
    C := h.C.of_block (hk h.tC (by simp))
    P := hm
    coh := fun k' b e => (h.coh k' b e).kept hle fun g t ht hor => hk ht (by rcases hor with rfl | rfl <;> simp)
    pag := fun k' b e => by
      rcases lookup_snoc_some e with e' | ⟨e1, e2, e3⟩
      · exact (h.pag k' b e').kept hle fun g t ht hor => hk ht (by rcases hor with rfl | rfl | rfl <;> simp)
      · subst e2 e3
        rw [(h.pag0 _ e1).1, (h.pag0 _ e1).2]
        exact ⟨tagAt_same .., _, _, hb, row_nil .., row_nil ..⟩
    run := fun k' b e => (h.run k' b e).kept hle fun g t ht hor => hk ht (by rcases hor with rfl | rfl <;> simp)
    coh0 := h.coh0
    pag0 := fun k' e => h.pag0 k' (lookup_snoc_none e).1
    run0 := h.run0 }
theorem Inv.addRun (h : Inv base L s w) (k : K2) (hl : L.run.lookup k = none) {n : Nat} (hn : w.heap.size ≤ n) (hg : w.grownBy w' (some L.R)) (hb : w'.heap[n]? = some (.cells #[.string ⟨#[]⟩, .bool false, .slice none 0 0, .bool false, .bool false] 108)) (hm : MapIs k2 w' L.R (L.run ++ [(k, n)])) :
    Inv base (L.addRun k n) s w' := by
  have hf := h.fresh hn
  have hle : OwnLe L.own (tagAt L.own n (10, k.1, k.2, 0)) := tagAt_le _ hf
  have hk := fun {b : Nat} {u : Tag} (hb : L.own b = some u) (hne : u ≠ (1, 0, 0, 0)) => h.kept_other h.tR hg hb hne
  have hbase := h.base_le
  exact {
    lt := fun b t ho => by
      by_cases e : b = n
      · subst e; exact ⟨by omega, (Array.getElem?_eq_some_iff.1 hb).1⟩
      · have ho' : L.own b = some t := by rw [← tagAt_other L.own (10, k.1, k.2, 0) e]; exact ho
        exact ⟨(h.lt b t ho').1, Nat.lt_of_lt_of_le (h.lt b t ho').2 hg.size⟩
    tA := hle _ _ h.tA, tR := hle _ _ h.tR, tC := hle _ _ h.tC, tP := hle _ _ h.tP
    aud := by
      obtain ⟨sv, h1, h2⟩ := h.aud
      exact ⟨sv, (hk h.tA (by simp)).trans h1, h2.kept hle fun g hg => hk hg (by simp)⟩
    R := hm
    C := h.C.of_block (hk h.tC (by simp))
    P := h.P.of_block (hk h.tP (by simp))
    coh := fun k' b e => (h.coh k' b e).kept hle fun g t ht hor => hk ht (by rcases hor with rfl | rfl <;> simp)
    pag := fun k' b e => (h.pag k' b e).kept hle fun g t ht hor => hk ht (by rcases hor with rfl | rfl | rfl <;> simp)
    run := fun k' b e => by
      rcases lookup_snoc_some e with e' | ⟨e1, e2, e3⟩
      · exact (h.run k' b e').kept hle fun g t ht hor => hk ht (by rcases hor with rfl | rfl <;> simp)
      · subst e2 e3
        rw [h.run0 _ e1]
        exact ⟨tagAt_same .., _, hb, row_nil ..⟩
    coh0 := h.coh0
    pag0 := h.pag0
    run0 := fun k' e => h.run0 k' (lookup_snoc_none e).1 }
theorem Ext.addCoh (k : K3) {n : Nat} (hn : w.heap.size ≤ n) : Ext w.heap.size L (L.addCoh k n) :=
  ⟨fun b hb => tagAt_other _ _ (by omega), rfl, fun _ _ e => lookup_snoc_old e, fun _ _ e => e, fun _ _ e => e⟩
theorem Ext.addPag (k : K2) {n : Nat} (hn : w.heap.size ≤ n) : Ext w.heap.size L (L.addPag k n) :=
  ⟨fun b hb => tagAt_other _ _ (by omega), rfl, fun _ _ e => e, fun _ _ e => lookup_snoc_old e, fun _ _ e => e⟩
theorem Ext.addRun (k : K2) {n : Nat} (hn : w.heap.size ≤ n) : Ext w.heap.size L (L.addRun k n) :=
  ⟨fun b hb => tagAt_other _ _ (by omega), rfl, fun _ _ e => e, fun _ _ e => e, fun _ _ e => lookup_snoc_old e⟩
end

/-! ### Cells of the auditor -/
theorem Inv.cell {base : Nat} {L : Lay} {s : St} {w : World} (h : Inv base L s w) : ∃ sv, ∀ i v, (audCells L s sv)[i]? = some v → w.cell? ⟨L.A, i, none⟩ = some v := by
  obtain ⟨sv, h1, _⟩ := h.aud
  exact ⟨sv, fun i v hi => by simp [World.cell?, h1, hi]⟩
theorem Inv.cellR {base : Nat} {L : Lay} {s : St} {w : World} (h : Inv base L s w) : w.cell? ⟨L.A, 9, none⟩ = some (.map (some L.R)) := by obtain ⟨sv, hc⟩ := h.cell; exact hc 9 _ rfl
theorem Inv.cellC {base : Nat} {L : Lay} {s : St} {w : World} (h : Inv base L s w) : w.cell? ⟨L.A, 10, none⟩ = some (.map (some L.C)) := by obtain ⟨sv, hc⟩ := h.cell; exact hc 10 _ rfl
theorem Inv.cellP {base : Nat} {L : Lay} {s : St} {w : World} (h : Inv base L s w) : w.cell? ⟨L.A, 11, none⟩ = some (.map (some L.P)) := by obtain ⟨sv, hc⟩ := h.cell; exact hc 11 _ rfl

/-! ### The contracts -/
section
variable {base : Nat} {L : Lay} {s : St}
/-- 'a.cohort(who, site)': the stored one, or a new one. -/
theorem cohort_any (t n st : Int) (w : World) (h : Inv base L s w) :
    Calls Try.prog 31 #[pv L.A, .agg #[.int .i64 t, .int .i64 n], .int .i64 st] w fun e w' => ∃ L' b, e = .returned (pv b) ∧ L'.coh.lookup (t, n, st) = some b ∧ Ext w.heap.size L L' ∧ Inv base L' s w' ∧ Fr L.own w w' ∧
      L'.pag = L.pag ∧ L'.run = L.run ∧ (L' = L ∨ L.coh.lookup (t, n, st) = none ∧ w.heap.size ≤ b ∧ L'.coh = L.coh ++ [((t, n, st), b)]) := by
  cases hl : L.coh.lookup (t, n, st) with
  | some b => exact (cohort_found L.A L.C L.coh t n st b w h.cellC h.C hl).mono fun e w' ⟨he, hb⟩ => ⟨L, b, he, hl, Ext.refl _ _, h.below hb, Fr.of_below hb, rfl, rfl, .inl rfl⟩
  | none => exact (cohort_new L.A L.C L.coh t n st w h.cellC h.C hl).mono fun e w' ⟨he, hg, hb, hm⟩ =>
      ⟨L.addCoh (t, n, st) (w.heap.size + 2), _, he, lookup_snoc_new hl, Ext.addCoh _ (by omega), h.addCoh _ hl (by omega) hg hb hm, fr_grown h.tC hg, rfl, rfl, .inr ⟨rfl, by omega, rfl⟩⟩
theorem page_any (t n : Int) (w : World) (h : Inv base L s w) :
    Calls Try.prog 49 #[pv L.A, .agg #[.int .i64 t, .int .i64 n]] w fun e w' => ∃ L' b, e = .returned (pv b) ∧ L'.pag.lookup (t, n) = some b ∧ Ext w.heap.size L L' ∧ Inv base L' s w' ∧ Fr L.own w w' ∧
      L'.coh = L.coh ∧ L'.run = L.run ∧ (L' = L ∨ L.pag.lookup (t, n) = none ∧ w.heap.size ≤ b ∧ L'.pag = L.pag ++ [((t, n), b)]) := by
  cases hl : L.pag.lookup (t, n) with
  | some b => exact (page_found L.A L.P L.pag t n b w h.cellP h.P hl).mono fun e w' ⟨he, hb⟩ => ⟨L, b, he, hl, Ext.refl _ _, h.below hb, Fr.of_below hb, rfl, rfl, .inl rfl⟩
  | none => exact (page_new L.A L.P L.pag t n w h.cellP h.P hl).mono fun e w' ⟨he, hg, hb, hm⟩ =>
      ⟨L.addPag (t, n) (w.heap.size + 1), _, he, lookup_snoc_new hl, Ext.addPag _ (by omega), h.addPag _ hl (by omega) hg hb hm, fr_grown h.tP hg, rfl, rfl, .inr ⟨rfl, by omega, rfl⟩⟩
theorem run_any (t n : Int) (w : World) (h : Inv base L s w) :
    Calls Try.prog 53 #[pv L.A, .agg #[.int .i64 t, .int .i64 n]] w fun e w' => ∃ L' b, e = .returned (pv b) ∧ L'.run.lookup (t, n) = some b ∧ Ext w.heap.size L L' ∧ Inv base L' s w' ∧ Fr L.own w w' ∧
      L'.coh = L.coh ∧ L'.pag = L.pag ∧ (L' = L ∨ L.run.lookup (t, n) = none ∧ w.heap.size ≤ b ∧ L'.run = L.run ++ [((t, n), b)]) := by
  cases hl : L.run.lookup (t, n) with
  | some b => exact (run_found L.A L.R L.run t n b w h.cellR h.R hl).mono fun e w' ⟨he, hb⟩ => ⟨L, b, he, hl, Ext.refl _ _, h.below hb, Fr.of_below hb, rfl, rfl, .inl rfl⟩
  | none => exact (run_new L.A L.R L.run t n w h.cellR h.R hl).mono fun e w' ⟨he, hg, hb, hm⟩ =>
      ⟨L.addRun (t, n) (w.heap.size + 1), _, he, lookup_snoc_new hl, Ext.addRun _ (by omega), h.addRun _ hl (by omega) hg hb hm, fr_grown h.tR hg, rfl, rfl, .inr ⟨rfl, by omega, rfl⟩⟩
end
end Go.Proofs.Qxb6604372a
