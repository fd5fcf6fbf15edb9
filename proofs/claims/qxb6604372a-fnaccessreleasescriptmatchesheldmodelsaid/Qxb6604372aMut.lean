/-
  WHAT EACH WRITE DOES TO 'Inv': the report's counts; the five appends.
-/
import Derived.Test.Qxb6604372aAdd
import Derived.Test.Qxb6604372aPlain
import Derived.Test.Qxb6604372aCopy
namespace Go.Proofs.Qxb6604372a
open Go.ChangeShapes Go.WideShapes Go.ChangeAt Go.RowKit

/-- A row (tag) has moved to block g, and the struct (tag TX) that leads to it was written: nothing else. -/
structure Chg (base : Nat) (L : Lay) (w w' : World) (g : Nat) (tag TX : Tag) : Prop where
  gown : L.own g = some tag ∨ w.heap.size ≤ g
  glt : g < w'.heap.size
  gbase : base ≤ g
  size : w.heap.size ≤ w'.heap.size
  kept : ∀ b t, L.own b = some t → t ≠ tag → t ≠ TX → w'.heap[b]? = w.heap[b]?
def Lay.retag (L : Lay) (g : Nat) (t : Tag) : Lay := { L with own := tagAt L.own g t }
section
variable {base : Nat} {L : Lay} {s : St} {w w' : World} {g : Nat} {tag TX : Tag}
theorem Chg.le (c : Chg base L w w' g tag TX) (h : Inv base L s w) : OwnLe L.own (tagAt L.own g tag) := by
  intro b t hb
  by_cases e : b = g
  · subst e
    rcases c.gown with h1 | h1
    · rw [hb] at h1; cases h1; exact tagAt_same ..
    · have := h.fresh h1; rw [hb] at this; cases this
  · rw [tagAt_other _ _ e]; exact hb
theorem Chg.lt (c : Chg base L w w' g tag TX) (h : Inv base L s w) : ∀ b t, tagAt L.own g tag b = some t → base ≤ b ∧ b < w'.heap.size := by
  intro b t hb
  by_cases e : b = g
  · subst e; exact ⟨c.gbase, c.glt⟩
  · rw [tagAt_other _ _ e] at hb
    exact ⟨(h.lt b t hb).1, Nat.lt_of_lt_of_le (h.lt b t hb).2 c.size⟩
theorem Chg.ext (c : Chg base L w w' g tag TX) : Ext w.heap.size L (L.retag g tag) := by
  refine ⟨fun b hb => ?_, rfl, fun _ _ e => e, fun _ _ e => e, fun _ _ e => e⟩
  by_cases e : b = g
  · subst e
    rcases c.gown with h1 | h1
    · show tagAt L.own b tag b = _; rw [tagAt_same, h1]
    · omega
  · exact tagAt_other _ _ e
/-- Out of an append (from whatever world w0 with the old blocks as they were) and the store behind it. -/
theorem Chg.of_append (h : Inv base L s w) {w0 w1 : World} {v u : Value} {X f : Nat} (h0 : Below w.heap.size w w0) (hg : w0.grownBy w1 v.ownBlock) (hv : ∀ b, v.ownBlock = some b → L.own b = some tag) (hl : v.ownBlock = some g ∨ g = w0.heap.size) (hlt : g < w1.heap.size) (hX : L.own X = some TX) :
    Chg base L w (w1.setCell ⟨X, f, none⟩ u) g tag TX := by
  have hb := h.base_le
  have hs := h0.size
  refine ⟨?_, by simpa using hlt, ?_, ?_, fun b t hb h1 h2 => ?_⟩
  · rcases hl with hl | hl
    · exact .inl (hv _ hl)
    · exact .inr (by omega)
  · rcases hl with hl | hl
    · exact (h.lt _ _ (hv _ hl)).1
    · omega
  · simp; have := hg.size; omega
  · have hbl := (h.lt b t hb).2
    rw [Below.heap_setCell _ _ _ _ (fun e => by subst e; rw [hX] at hb; cases hb; exact h2 rfl), hg.block b (by omega) (fun e => by have := hv b e.symm; rw [hb] at this; cases this; exact h1 rfl), h0.block b hbl]
theorem fr_append {w0 w1 : World} {v u : Value} {X f : Nat} (h0 : Below w.heap.size w w0) (hg : w0.grownBy w1 v.ownBlock) (hv : ∀ b, v.ownBlock = some b → L.own b = some tag) (hX : L.own X = some TX) : Fr L.own w (w1.setCell ⟨X, f, none⟩ u) := by
  have hs := h0.size
  refine ⟨hg.os.trans h0.os, hg.tape.trans h0.tape, hg.output.trans h0.output, ?_, fun b hb ho => ?_⟩
  · simp; have := hg.size; omega
  · rw [Below.heap_setCell _ _ _ _ (fun e => by subst e; rw [hX] at ho; cases ho), hg.block b (by omega) (fun e => by have := hv b e.symm; rw [ho] at this; cases this), h0.block b hb]

theorem Inv.appAcc (h : Inv base L s w) (c : Chg base L w w' g (4, 0, 0, 0) (0, 0, 0, 0)) (a : Acc) {v : Value} (hA : w'.heap[L.A]? = some (.cells (audCells L s v) 64))
    (hr : w'.ownsRow base 86 6 v (s.accs.length + 1) (s.accs.flatMap accCells ++ accCells a)) (hv : v.ownBlock = some g) : Inv base (L.retag g (4, 0, 0, 0)) { s with accs := s.accs ++ [a] } w' := by
  have hle := c.le h
  exact {
    lt := c.lt h
    tA := hle _ _ h.tA, tR := hle _ _ h.tR, tC := hle _ _ h.tC, tP := hle _ _ h.tP
    aud := ⟨v, hA, by simpa using hr, fun b hb => by rw [hv] at hb; cases hb; exact tagAt_same ..⟩
    R := h.R.of_block (c.kept _ _ h.tR (by simp) (by simp))
    C := h.C.of_block (c.kept _ _ h.tC (by simp) (by simp))
    P := h.P.of_block (c.kept _ _ h.tP (by simp) (by simp))
    coh := fun k b e => (h.coh k b e).kept hle fun x t ht hor => c.kept x t ht (by rcases hor with rfl | rfl <;> simp) (by rcases hor with rfl | rfl <;> simp)
    pag := fun k b e => (h.pag k b e).kept hle fun x t ht hor => c.kept x t ht (by rcases hor with rfl | rfl | rfl <;> simp) (by rcases hor with rfl | rfl | rfl <;> simp)
    run := fun k b e => (h.run k b e).kept hle fun x t ht hor => c.kept x t ht (by rcases hor with rfl | rfl <;> simp) (by rcases hor with rfl | rfl <;> simp)
    coh0 := h.coh0, pag0 := h.pag0, run0 := h.run0 }

theorem Inv.appCoh (h : Inv base L s w) (k0 : K3) (c : Chg base L w w' g (6, k0) (5, k0)) {b0 : Nat} (hl : L.coh.lookup k0 = some b0) (x : Int) {v : Value} (hb0 : w'.heap[b0]? = some (.cells #[v, .bool false] 69))
    (hr : w'.ownsRow base 3 1 v ((s.cohA k0).length + 1) (ints (s.cohA k0) ++ [.int .i64 x])) (hv : v.ownBlock = some g) : Inv base (L.retag g (6, k0)) { s with cohA := updK s.cohA k0 (s.cohA k0 ++ [x]) } w' := by
  have hle := c.le h
  exact {
    lt := c.lt h
    tA := hle _ _ h.tA, tR := hle _ _ h.tR, tC := hle _ _ h.tC, tP := hle _ _ h.tP
    aud := by
      obtain ⟨sv, h1, h2⟩ := h.aud
      exact ⟨sv, (c.kept _ _ h.tA (by simp) (by simp)).trans h1, h2.kept hle fun x hx => c.kept x _ hx (by simp) (by simp)⟩
    R := h.R.of_block (c.kept _ _ h.tR (by simp) (by simp))
    C := h.C.of_block (c.kept _ _ h.tC (by simp) (by simp))
    P := h.P.of_block (c.kept _ _ h.tP (by simp) (by simp))
    coh := fun k b e => by
      by_cases hk : k = k0
      · subst hk
        rw [show b = b0 from by have : L.coh.lookup k = some b := e; rw [hl] at this; cases this; rfl]
        show CohAt base (tagAt L.own g (6, k)) w' b0 k (updK s.cohA k (s.cohA k ++ [x]) k)
        rw [show updK s.cohA k (s.cohA k ++ [x]) k = s.cohA k ++ [x] by simp [updK]]
        exact ⟨hle _ _ (h.coh _ _ hl).1, v, hb0, by simpa [ints] using hr, fun b hb => by rw [hv] at hb; cases hb; exact tagAt_same ..⟩
      · show CohAt base (tagAt L.own g (6, k0)) w' b k (updK s.cohA k0 (s.cohA k0 ++ [x]) k)
        rw [show updK s.cohA k0 (s.cohA k0 ++ [x]) k = s.cohA k by simp [updK, hk]]
        exact (h.coh k b e).kept hle fun x t ht hor => c.kept x t ht (by rcases hor with rfl | rfl <;> simp [hk]) (by rcases hor with rfl | rfl <;> simp [hk])
    pag := fun k b e => (h.pag k b e).kept hle fun x t ht hor => c.kept x t ht (by rcases hor with rfl | rfl | rfl <;> simp) (by rcases hor with rfl | rfl | rfl <;> simp)
    run := fun k b e => (h.run k b e).kept hle fun x t ht hor => c.kept x t ht (by rcases hor with rfl | rfl <;> simp) (by rcases hor with rfl | rfl <;> simp)
    coh0 := fun k e => by
      have hk : k ≠ k0 := fun e' => by subst e'; have : L.coh.lookup k = none := e; rw [hl] at this; cases this
      show updK s.cohA k0 (s.cohA k0 ++ [x]) k = []
      rw [show updK s.cohA k0 (s.cohA k0 ++ [x]) k = s.cohA k by simp [updK, hk]]
      exact h.coh0 k e
    pag0 := h.pag0, run0 := h.run0 }

theorem Inv.appRun (h : Inv base L s w) (k0 : K2) (c : Chg base L w w' g (11, k0.1, k0.2, 0) (10, k0.1, k0.2, 0)) {b0 : Nat} (hl : L.run.lookup k0 = some b0) (x : Int × K2) {v : Value}
    (hb0 : w'.heap[b0]? = some (.cells #[.string ⟨#[]⟩, .bool false, v, .bool false, .bool false] 108))
    (hr : w'.ownsRow base 110 3 v ((s.runB k0).length + 1) ((s.runB k0).flatMap borCells ++ borCells x)) (hv : v.ownBlock = some g) : Inv base (L.retag g (11, k0.1, k0.2, 0)) { s with runB := updK s.runB k0 (s.runB k0 ++ [x]) } w' := by
  have hle := c.le h
  exact {
    lt := c.lt h
    tA := hle _ _ h.tA, tR := hle _ _ h.tR, tC := hle _ _ h.tC, tP := hle _ _ h.tP
    aud := by
      obtain ⟨sv, h1, h2⟩ := h.aud
      exact ⟨sv, (c.kept _ _ h.tA (by simp) (by simp)).trans h1, h2.kept hle fun x hx => c.kept x _ hx (by simp) (by simp)⟩
    R := h.R.of_block (c.kept _ _ h.tR (by simp) (by simp))
    C := h.C.of_block (c.kept _ _ h.tC (by simp) (by simp))
    P := h.P.of_block (c.kept _ _ h.tP (by simp) (by simp))
    coh := fun k b e => (h.coh k b e).kept hle fun x t ht hor => c.kept x t ht (by rcases hor with rfl | rfl <;> simp) (by rcases hor with rfl | rfl <;> simp)
    pag := fun k b e => (h.pag k b e).kept hle fun x t ht hor => c.kept x t ht (by rcases hor with rfl | rfl | rfl <;> simp) (by rcases hor with rfl | rfl | rfl <;> simp)
    run := fun k b e => by
      by_cases hk : k = k0
      · subst hk
        rw [show b = b0 from by have : L.run.lookup k = some b := e; rw [hl] at this; cases this; rfl]
        show RunAt base (tagAt L.own g (11, k.1, k.2, 0)) w' b0 k (updK s.runB k (s.runB k ++ [x]) k)
        rw [show updK s.runB k (s.runB k ++ [x]) k = s.runB k ++ [x] by simp [updK]]
        exact ⟨hle _ _ (h.run _ _ hl).1, v, hb0, by simpa using hr, fun b hb => by rw [hv] at hb; cases hb; exact tagAt_same ..⟩
      · show RunAt base (tagAt L.own g (11, k0.1, k0.2, 0)) w' b k (updK s.runB k0 (s.runB k0 ++ [x]) k)
        rw [show updK s.runB k0 (s.runB k0 ++ [x]) k = s.runB k by simp [updK, hk]]
        have hk' : ¬ (k.1 = k0.1 ∧ k.2 = k0.2) := fun e => hk (Prod.ext e.1 e.2)
        exact (h.run k b e).kept hle fun x t ht hor => c.kept x t ht (by rcases hor with rfl | rfl <;> simp <;> exact fun a b => hk' ⟨a, b⟩) (by rcases hor with rfl | rfl <;> simp <;> exact fun a b => hk' ⟨a, b⟩)
    coh0 := h.coh0, pag0 := h.pag0
    run0 := fun k e => by
      have hk : k ≠ k0 := fun e' => by subst e'; have : L.run.lookup k = none := e; rw [hl] at this; cases this
      show updK s.runB k0 (s.runB k0 ++ [x]) k = []
      rw [show updK s.runB k0 (s.runB k0 ++ [x]) k = s.runB k by simp [updK, hk]]
      exact h.run0 k e }

theorem Inv.appPagA (h : Inv base L s w) (k0 : K2) (c : Chg base L w w' g (8, k0.1, k0.2, 0) (7, k0.1, k0.2, 0)) {b0 : Nat} (hl : L.pag.lookup k0 = some b0) (x : Int) {v sh : Value}
    (hold : w.heap[b0]? = some (.cells #[v, sh] 99) ∨ ∃ v0, w.heap[b0]? = some (.cells #[v0, sh] 99)) (hb0 : w'.heap[b0]? = some (.cells #[v, sh] 99))
    (hr : w'.ownsRow base 3 1 v ((s.pagA k0).length + 1) (ints (s.pagA k0) ++ [.int .i64 x])) (hv : v.ownBlock = some g) : Inv base (L.retag g (8, k0.1, k0.2, 0)) { s with pagA := updK s.pagA k0 (s.pagA k0 ++ [x]) } w' := by
  have hle := c.le h
  exact {
    lt := c.lt h
    tA := hle _ _ h.tA, tR := hle _ _ h.tR, tC := hle _ _ h.tC, tP := hle _ _ h.tP
    aud := by
      obtain ⟨sv, h1, h2⟩ := h.aud
      exact ⟨sv, (c.kept _ _ h.tA (by simp) (by simp)).trans h1, h2.kept hle fun x hx => c.kept x _ hx (by simp) (by simp)⟩
    R := h.R.of_block (c.kept _ _ h.tR (by simp) (by simp))
    C := h.C.of_block (c.kept _ _ h.tC (by simp) (by simp))
    P := h.P.of_block (c.kept _ _ h.tP (by simp) (by simp))
    coh := fun k b e => (h.coh k b e).kept hle fun x t ht hor => c.kept x t ht (by rcases hor with rfl | rfl <;> simp) (by rcases hor with rfl | rfl <;> simp)
    run := fun k b e => (h.run k b e).kept hle fun x t ht hor => c.kept x t ht (by rcases hor with rfl | rfl <;> simp) (by rcases hor with rfl | rfl <;> simp)
    pag := fun k b e => by
      by_cases hk : k = k0
      · subst hk
        rw [show b = b0 from by have : L.pag.lookup k = some b := e; rw [hl] at this; cases this; rfl]
        show PagAt base (tagAt L.own g (8, k.1, k.2, 0)) w' b0 k (updK s.pagA k (s.pagA k ++ [x]) k) (s.pagH k)
        rw [show updK s.pagA k (s.pagA k ++ [x]) k = s.pagA k ++ [x] by simp [updK]]
        obtain ⟨o1, sa, sh', h1, h2, h3⟩ := h.pag _ _ hl
        have : sh' = sh := by
          rcases hold with hold | ⟨v0, hold⟩
          · rw [hold] at h1; simp at h1; exact h1.2.symm
          · rw [hold] at h1; simp at h1; exact h1.2.symm
        subst this
        exact ⟨hle _ _ o1, v, sh', hb0, ⟨by simpa [ints] using hr, fun b hb => by rw [hv] at hb; cases hb; exact tagAt_same ..⟩, h3.kept hle fun x hx => c.kept x _ hx (by simp) (by simp)⟩
      · show PagAt base (tagAt L.own g (8, k0.1, k0.2, 0)) w' b k (updK s.pagA k0 (s.pagA k0 ++ [x]) k) (s.pagH k)
        rw [show updK s.pagA k0 (s.pagA k0 ++ [x]) k = s.pagA k by simp [updK, hk]]
        have hk' : ¬ (k.1 = k0.1 ∧ k.2 = k0.2) := fun e => hk (Prod.ext e.1 e.2)
        exact (h.pag k b e).kept hle fun x t ht hor => c.kept x t ht (by rcases hor with rfl | rfl | rfl <;> simp <;> exact fun a b => hk' ⟨a, b⟩) (by rcases hor with rfl | rfl | rfl <;> simp <;> exact fun a b => hk' ⟨a, b⟩)
    coh0 := h.coh0, run0 := h.run0
    pag0 := fun k e => by
      have hk : k ≠ k0 := fun e' => by subst e'; have : L.pag.lookup k = none := e; rw [hl] at this; cases this
      show updK s.pagA k0 (s.pagA k0 ++ [x]) k = [] ∧ s.pagH k = []
      rw [show updK s.pagA k0 (s.pagA k0 ++ [x]) k = s.pagA k by simp [updK, hk]]
      exact h.pag0 k e }

/-- The held list of one page becomes ys. -/
theorem Inv.setPagH (h : Inv base L s w) (k0 : K2) (c : Chg base L w w' g (9, k0.1, k0.2, 0) (7, k0.1, k0.2, 0)) {b0 : Nat} (hl : L.pag.lookup k0 = some b0) (ys : List Int) {v sa : Value}
    (hold : ∃ v0, w.heap[b0]? = some (.cells #[sa, v0] 99)) (hb0 : w'.heap[b0]? = some (.cells #[sa, v] 99))
    (hr : w'.ownsRow base 3 1 v ys.length (ints ys)) (hv : v.ownBlock = some g) : Inv base (L.retag g (9, k0.1, k0.2, 0)) { s with pagH := updK s.pagH k0 ys } w' := by
  have hle := c.le h
  exact {
    lt := c.lt h
    tA := hle _ _ h.tA, tR := hle _ _ h.tR, tC := hle _ _ h.tC, tP := hle _ _ h.tP
    aud := by
      obtain ⟨sv, h1, h2⟩ := h.aud
      exact ⟨sv, (c.kept _ _ h.tA (by simp) (by simp)).trans h1, h2.kept hle fun x hx => c.kept x _ hx (by simp) (by simp)⟩
    R := h.R.of_block (c.kept _ _ h.tR (by simp) (by simp))
    C := h.C.of_block (c.kept _ _ h.tC (by simp) (by simp))
    P := h.P.of_block (c.kept _ _ h.tP (by simp) (by simp))
    coh := fun k b e => (h.coh k b e).kept hle fun x t ht hor => c.kept x t ht (by rcases hor with rfl | rfl <;> simp) (by rcases hor with rfl | rfl <;> simp)
    run := fun k b e => (h.run k b e).kept hle fun x t ht hor => c.kept x t ht (by rcases hor with rfl | rfl <;> simp) (by rcases hor with rfl | rfl <;> simp)
    pag := fun k b e => by
      by_cases hk : k = k0
      · subst hk
        rw [show b = b0 from by have : L.pag.lookup k = some b := e; rw [hl] at this; cases this; rfl]
        show PagAt base (tagAt L.own g (9, k.1, k.2, 0)) w' b0 k (s.pagA k) (updK s.pagH k ys k)
        rw [show updK s.pagH k ys k = ys by simp [updK]]
        obtain ⟨o1, sa', sh, h1, h2, h3⟩ := h.pag _ _ hl
        have : sa' = sa := by
          obtain ⟨v0, hold⟩ := hold
          rw [hold] at h1; simp at h1; exact h1.1.symm
        subst this
        exact ⟨hle _ _ o1, sa', v, hb0, h2.kept hle fun x hx => c.kept x _ hx (by simp) (by simp), hr, fun b hb => by rw [hv] at hb; cases hb; exact tagAt_same ..⟩
      · show PagAt base (tagAt L.own g (9, k0.1, k0.2, 0)) w' b k (s.pagA k) (updK s.pagH k0 ys k)
        rw [show updK s.pagH k0 ys k = s.pagH k by simp [updK, hk]]
        have hk' : ¬ (k.1 = k0.1 ∧ k.2 = k0.2) := fun e => hk (Prod.ext e.1 e.2)
        exact (h.pag k b e).kept hle fun x t ht hor => c.kept x t ht (by rcases hor with rfl | rfl | rfl <;> simp <;> exact fun a b => hk' ⟨a, b⟩) (by rcases hor with rfl | rfl | rfl <;> simp <;> exact fun a b => hk' ⟨a, b⟩)
    coh0 := h.coh0, run0 := h.run0
    pag0 := fun k e => by
      have hk : k ≠ k0 := fun e' => by subst e'; have : L.pag.lookup k = none := e; rw [hl] at this; cases this
      show s.pagA k = [] ∧ updK s.pagH k0 ys k = []
      rw [show updK s.pagH k0 ys k = s.pagH k by simp [updK, hk]]
      exact h.pag0 k e }

/-- A count of the report is stored. -/
theorem Inv.setRep (h : Inv base L s w) {sv : Value} (hA : w.heap[L.A]? = some (.cells (audCells L s sv) 64)) (i : Nat) (u : Value) (lc cv : Int) (hc : (audCells L s sv).setIfInBounds i u = audCells L { s with lc := lc, cv := cv } sv) :
    Inv base L { s with lc := lc, cv := cv } (w.setCell ⟨L.A, i, none⟩ u) := by
  have hk : ∀ b t, L.own b = some t → t ≠ (0, 0, 0, 0) → (w.setCell ⟨L.A, i, none⟩ u).heap[b]? = w.heap[b]? := fun b t hb hne => Below.heap_setCell _ _ _ _ (fun e => by have e' : b = L.A := e; subst e'; rw [h.tA] at hb; cases hb; exact hne rfl)
  have hle := OwnLe.refl L.own
  exact {
    lt := fun b t ho => by have := h.lt b t ho; simpa using this
    tA := h.tA, tR := h.tR, tC := h.tC, tP := h.tP
    aud := by
      obtain ⟨sv', h1, h2⟩ := h.aud
      have : sv' = sv := by rw [hA] at h1; simp [audCells] at h1; exact h1.symm
      subst this
      exact ⟨sv', by rw [heap_setCell_same hA, hc], h2.kept hle fun x hx => hk x _ hx (by simp)⟩
    R := h.R.of_block (hk _ _ h.tR (by simp))
    C := h.C.of_block (hk _ _ h.tC (by simp))
    P := h.P.of_block (hk _ _ h.tP (by simp))
    coh := fun k b e => (h.coh k b e).kept hle fun x t ht hor => hk x t ht (by rcases hor with rfl | rfl <;> simp)
    pag := fun k b e => (h.pag k b e).kept hle fun x t ht hor => hk x t ht (by rcases hor with rfl | rfl | rfl <;> simp)
    run := fun k b e => (h.run k b e).kept hle fun x t ht hor => hk x t ht (by rcases hor with rfl | rfl <;> simp)
    coh0 := h.coh0, pag0 := h.pag0, run0 := h.run0 }
theorem fr_setCell {X f : Nat} {u : Value} (hX : L.own X = some TX) : Fr L.own w (w.setCell ⟨X, f, none⟩ u) :=
  ⟨rfl, rfl, rfl, by simp, fun b _ ho => Below.heap_setCell _ _ _ _ (fun e => by have e' : b = X := e; subst e'; rw [hX] at ho; cases ho)⟩
end
end Go.Proofs.Qxb6604372a
