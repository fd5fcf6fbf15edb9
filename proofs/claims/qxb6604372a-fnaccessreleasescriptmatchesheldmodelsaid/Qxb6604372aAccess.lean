/-
  (*auditor).access: the walk.
-/
import Derived.Test.Qxb6604372aPre
import Derived.Deep.AppendLies
namespace Go.Proofs.Qxb6604372a
open Go.ChangeShapes Go.WideShapes Go.ChangeAt Go.RowKit

section
variable {base : Nat} {L0 : Lay} {s : St}
theorem mid_start {e : Ev} {E A : Nat} {w : World} (h : Inv base L0 s w) (hE : EvAt w E e) (hoE : L0.own E = none) (hA : L0.A = A) :
    Mid base L0 w A E w.heap.size (w.heap.size + 1) (w.heap.size + 2) e (keysL L0) s L0 (((w.alloc (.cells #[pv A] 25)).alloc (.cells #[pv E] 79)).alloc (.cells #[.int .i64 e.site, .int .i64 e.page] 84)).drew := by
  have hb : Below w.heap.size w (((w.alloc (.cells #[pv A] 25)).alloc (.cells #[pv E] 79)).alloc (.cells #[.int .i64 e.site, .int .i64 e.page] 84)).drew := ((((Below.refl _ _).alloc (Nat.le_refl _) _).alloc (by simp) _).alloc (by simp; omega) _).drew
  refine ⟨h.below hb, hA, Fr.of_below hb, Ext.refl _ _, (hb.block E (lt_of_block hE)).trans hE, ?_, ?_, ?_, hoE, h.fresh (Nat.le_refl _), h.fresh (by omega), h.fresh (by omega), rfl⟩
  · show (((w.alloc _).alloc _).alloc _).heap[_]? = _
    rw [Below.heap_alloc _ _ _ (by simp; omega), Below.heap_alloc _ _ _ (by simp)]; exact heap_at _ _ rfl
  · show (((w.alloc _).alloc _).alloc _).heap[_]? = _
    rw [Below.heap_alloc _ _ _ (by simp)]; exact heap_at _ _ (by simp)
  · show (((w.alloc _).alloc _).alloc _).heap[_]? = _
    exact heap_at _ _ (by simp)
theorem hit_calls {L : Lay} {e : Ev} {E A B0 B1 B4 : Nat} {w W : World} {kk : List K2 × List K3 × List K2} (hok : AccOk s L0 e) (m : Mid base L0 w A E B0 B1 B4 e kk s L W) (i : Nat) (x : Int) (W' : World) (hx : (s.pagH e.pk)[i]? = some x) (hb : Below W.heap.size W W') :
    Calls Try.prog 51 #[.int .i64 x, pv B0, pv B1] W' fun r W'' => r = .returned (.bool (hit s.accs e x)) ∧ Below W.heap.size W W'' := by
  obtain ⟨j, a, rfl, ha, b, hb'⟩ := hok.held x (List.mem_of_getElem? hx)
  have m' := m.below hb
  refine (hit_any e j a B0 B1 E W' m'.inv ha ⟨b, m'.ext.coh _ _ hb'⟩ (by rw [m'.aA]; exact cell_of_block m'.b0 rfl) (cell_of_block m'.b1 rfl) m'.ev).mono ?_
  rintro r W'' ⟨rfl, hb2⟩
  exact ⟨by simp [hit, ha], hb.trans (hb2.mono hb.size)⟩
theorem mid_rep {L : Lay} {e : Ev} {E A B0 B1 B4 : Nat} {w W : World} {kk : List K2 × List K3 × List K2} (m : Mid base L0 w A E B0 B1 B4 e kk s L W) {sv : Value} (hA : W.heap[A]? = some (.cells (audCells L s sv) 64)) (i : Nat) (lc cv u : Int)
    (hc : (audCells L s sv).setIfInBounds i (.int .i64 u) = audCells L { s with lc := lc, cv := cv } sv) : Mid base L0 w A E B0 B1 B4 e kk { s with lc := lc, cv := cv } L (W.setCell ⟨A, i, none⟩ (.int .i64 u)) := by
  have hA' := m.aA
  subst hA'
  exact m.step (Ext.refl _ _) (m.inv.setRep hA i _ lc cv hc) (fr_setCell m.inv.tA) m.keys
/-- A block with another tag, behind an append. -/
theorem grown_kept {L : Lay} {w w0 w1 : World} {v : Value} {tag : Tag} (h : Inv base L s w) (h0 : Below w.heap.size w w0) (hg : w0.grownBy w1 v.ownBlock) (hv : ∀ b, v.ownBlock = some b → L.own b = some tag) {b : Nat} (hlt : b < w.heap.size) (hb : L.own b ≠ some tag) : w1.heap[b]? = w.heap[b]? := by
  have := h.base_le
  rw [hg.block b (by have := h0.size; omega) (fun e => hb (hv b e.symm)), h0.block b hlt]
theorem new_ne {L : Lay} {w w0 : World} {v : Value} {tag : Tag} {g X : Nat} (h0 : Below w.heap.size w w0) (hv : ∀ b, v.ownBlock = some b → L.own b = some tag) (hl : v.ownBlock = some g ∨ g = w0.heap.size) (hX : X < w.heap.size) (hb : L.own X ≠ some tag) : g ≠ X := by
  rintro rfl
  rcases hl with hl | hl
  · exact hb (hv _ hl)
  · have := h0.size; omega
theorem mid_acc {L : Lay} {e : Ev} {E A B0 B1 B4 : Nat} {w W : World} {kk : List K2 × List K3 × List K2} (m : Mid base L0 w A E B0 B1 B4 e kk s L W) {v : Value} (hA : W.heap[A]? = some (.cells (audCells L s v) 64))
    (hrow : Row base L.own W (4, 0, 0, 0) 86 6 v s.accs.length (s.accs.flatMap accCells)) {w0 w1 : World} {g cap : Nat} (h0 : Below W.heap.size W w0) (hg : w0.grownBy w1 v.ownBlock) (hat : v.ownBlock = some g ∨ g = w0.heap.size) (hlt : g < w1.heap.size)
    (hown : w1.ownsRow base 86 6 (.slice (some ⟨g, 0, none⟩) (s.accs.length + 1) cap) (s.accs.length + 1) (s.accs.flatMap accCells ++ accCells e.acc)) :
    ∃ L2 : Lay, L2.pag = L.pag ∧ Mid base L0 w A E B0 B1 B4 e kk { s with accs := s.accs ++ [e.acc] } L2 (w1.setCell ⟨A, 12, none⟩ (.slice (some ⟨g, 0, none⟩) (s.accs.length + 1) cap)) := by
  have hA' := m.aA
  subst hA'
  have hAl := lt_of_block hA
  have hAo : L.own L.A ≠ some (4, 0, 0, 0) := by rw [m.inv.tA]; simp
  have c := Chg.of_append (u := .slice (some ⟨g, 0, none⟩) (s.accs.length + 1) cap) (f := 12) m.inv h0 hg hrow.2 hat hlt m.inv.tA
  have hne := new_ne h0 hrow.2 hat hAl hAo
  refine ⟨L.retag g (4, 0, 0, 0), rfl, m.step c.ext (m.inv.appAcc c e.acc (v := .slice (some ⟨g, 0, none⟩) (s.accs.length + 1) cap) ?_ ?_ rfl) (fr_append h0 hg hrow.2 m.inv.tA) m.keys⟩
  · have := (grown_kept m.inv h0 hg hrow.2 hAl hAo).trans hA
    rw [heap_setCell_same this]; rfl
  · exact ownsRow_of_block hown fun b hb => by
      have : b = g := by simpa [Value.ownBlock] using hb.symm
      subst this
      exact Below.heap_setCell _ _ _ _ hne
theorem mid_acc' {s5 : St} {lc cv : Int} (hs5 : s5 = { s with lc := lc, cv := cv }) {L : Lay} {e : Ev} {E A B0 B1 B4 : Nat} {w W : World} {kk : List K2 × List K3 × List K2} (m : Mid base L0 w A E B0 B1 B4 e kk s5 L W) {v : Value} (hA : W.heap[A]? = some (.cells (audCells L s5 v) 64))
    (hrow : Row base L.own W (4, 0, 0, 0) 86 6 v s.accs.length (s.accs.flatMap accCells)) {w0 w1 : World} {g cap : Nat} (h0 : Below W.heap.size W w0) (hg : w0.grownBy w1 v.ownBlock) (hat : v.ownBlock = some g ∨ g = w0.heap.size) (hlt : g < w1.heap.size)
    (hown : w1.ownsRow base 86 6 (.slice (some ⟨g, 0, none⟩) (s.accs.length + 1) cap) (s.accs.length + 1) (s.accs.flatMap accCells ++ accCells e.acc)) :
    ∃ L2 : Lay, Hid (L2.pag = L.pag) ∧ Hid (Mid base L0 w A E B0 B1 B4 e kk { s5 with accs := s.accs ++ [e.acc] } L2 (w1.setCell ⟨A, 12, none⟩ (.slice (some ⟨g, 0, none⟩) (s.accs.length + 1) cap))) := by
  subst hs5
  exact mid_acc m hA hrow h0 hg hat hlt hown
theorem info86 : (Try.prog.info? 86).map (fun i => (i.zero, i.size, i.bytes)) = some (some (.agg #[.int .i64 0, .int .i64 0, .int .i64 0, .int .i64 0, .bool false, .bool false]), 6, 40) := by kernel_rfl
theorem bor_oneCell (b : Int × K2) : ∀ u ∈ borCells b, u.oneCell' = true := by
  intro u hu
  simp [borCells] at hu
  rcases hu with rfl | rfl | rfl <;> rfl
theorem acc_oneCell (a : Acc) : ∀ u ∈ accCells a, u.oneCell' = true := by
  intro u hu
  simp [accCells] at hu
  rcases hu with rfl | rfl | rfl | rfl | rfl | rfl <;> rfl
theorem info3 : (Try.prog.info? 3).map (fun i => (i.zero, i.size, i.bytes)) = some (some (.int .i64 0), 1, 8) := by kernel_rfl
theorem info110 : (Try.prog.info? 110).map (fun i => (i.zero, i.size, i.bytes)) = some (some (.agg #[.int .i64 0, .int .i64 0, .int .i64 0]), 3, 24) := by kernel_rfl
theorem ownsRow_set {w1 : World} {e : TypeId} {size n cap g X f : Nat} {u : Value} {xs : List Value} (h : w1.ownsRow base e size (.slice (some ⟨g, 0, none⟩) n cap) n xs) (hne : g ≠ X) : (w1.setCell ⟨X, f, none⟩ u).ownsRow base e size (.slice (some ⟨g, 0, none⟩) n cap) n xs :=
  ownsRow_of_block h fun b hb => by
    have : b = g := by simpa [Value.ownBlock] using hb.symm
    subst this
    exact Below.heap_setCell _ _ _ _ hne
section
variable {L : Lay} {e : Ev} {E A B0 B1 B4 : Nat} {w W : World} {kk : List K2 × List K3 × List K2}
theorem mid_pagA (m : Mid base L0 w A E B0 B1 B4 e kk s L W) {pb : Nat} (hl : L.pag.lookup e.pk = some pb) {v sh : Value} (hb : W.heap[pb]? = some (.cells #[v, sh] 99)) (x : Int)
    (hrow : Row base L.own W (8, e.pk.1, e.pk.2, 0) 3 1 v (s.pagA e.pk).length (ints (s.pagA e.pk))) {w0 w1 : World} {g cap : Nat} (h0 : Below W.heap.size W w0) (hg : w0.grownBy w1 v.ownBlock) (hat : v.ownBlock = some g ∨ g = w0.heap.size) (hlt : g < w1.heap.size)
    (hown : w1.ownsRow base 3 1 (.slice (some ⟨g, 0, none⟩) ((s.pagA e.pk).length + 1) cap) ((s.pagA e.pk).length + 1) (ints (s.pagA e.pk) ++ [.int .i64 x])) :
    ∃ L2 : Lay, L2.pag = L.pag ∧ Mid base L0 w A E B0 B1 B4 e kk { s with pagA := updK s.pagA e.pk (s.pagA e.pk ++ [x]) } L2 (w1.setCell ⟨pb, 0, none⟩ (.slice (some ⟨g, 0, none⟩) ((s.pagA e.pk).length + 1) cap)) := by
  have hpl := lt_of_block hb
  have ho := (m.inv.pag _ _ hl).1
  have hpo : L.own pb ≠ some (8, e.pk.1, e.pk.2, 0) := by rw [ho]; simp
  have c := Chg.of_append (u := .slice (some ⟨g, 0, none⟩) ((s.pagA e.pk).length + 1) cap) (f := 0) m.inv h0 hg hrow.2 hat hlt ho
  have hne := new_ne h0 hrow.2 hat hpl hpo
  refine ⟨L.retag g (8, e.pk.1, e.pk.2, 0), rfl, m.step c.ext (m.inv.appPagA e.pk c hl x (v := .slice (some ⟨g, 0, none⟩) ((s.pagA e.pk).length + 1) cap) (.inr ⟨v, hb⟩) ?_ (ownsRow_set hown hne) rfl) (fr_append h0 hg hrow.2 ho) m.keys⟩
  have := (grown_kept m.inv h0 hg hrow.2 hpl hpo).trans hb
  rw [heap_setCell_same this]; rfl
theorem mid_pagH (m : Mid base L0 w A E B0 B1 B4 e kk s L W) {pb : Nat} (hl : L.pag.lookup e.pk = some pb) {v sa : Value} (hb : W.heap[pb]? = some (.cells #[sa, v] 99)) (x : Int)
    (hrow : Row base L.own W (9, e.pk.1, e.pk.2, 0) 3 1 v (s.pagH e.pk).length (ints (s.pagH e.pk))) {w0 w1 : World} {g cap : Nat} (h0 : Below W.heap.size W w0) (hg : w0.grownBy w1 v.ownBlock) (hat : v.ownBlock = some g ∨ g = w0.heap.size) (hlt : g < w1.heap.size)
    (hown : w1.ownsRow base 3 1 (.slice (some ⟨g, 0, none⟩) ((s.pagH e.pk).length + 1) cap) ((s.pagH e.pk).length + 1) (ints (s.pagH e.pk) ++ [.int .i64 x])) :
    ∃ L2 : Lay, L2.pag = L.pag ∧ Mid base L0 w A E B0 B1 B4 e kk { s with pagH := updK s.pagH e.pk (s.pagH e.pk ++ [x]) } L2 (w1.setCell ⟨pb, 1, none⟩ (.slice (some ⟨g, 0, none⟩) ((s.pagH e.pk).length + 1) cap)) := by
  have hpl := lt_of_block hb
  have ho := (m.inv.pag _ _ hl).1
  have hpo : L.own pb ≠ some (9, e.pk.1, e.pk.2, 0) := by rw [ho]; simp
  have c := Chg.of_append (u := .slice (some ⟨g, 0, none⟩) ((s.pagH e.pk).length + 1) cap) (f := 1) m.inv h0 hg hrow.2 hat hlt ho
  have hne := new_ne h0 hrow.2 hat hpl hpo
  refine ⟨L.retag g (9, e.pk.1, e.pk.2, 0), rfl, m.step c.ext (m.inv.setPagH e.pk c hl (s.pagH e.pk ++ [x]) (v := .slice (some ⟨g, 0, none⟩) ((s.pagH e.pk).length + 1) cap) ⟨v, hb⟩ ?_ (by simpa [ints] using ownsRow_set hown hne) rfl) (fr_append h0 hg hrow.2 ho) m.keys⟩
  have := (grown_kept m.inv h0 hg hrow.2 hpl hpo).trans hb
  rw [heap_setCell_same this]; rfl
theorem mid_coh (m : Mid base L0 w A E B0 B1 B4 e kk s L W) {k : K3} {cb : Nat} (hl : L.coh.lookup k = some cb) {v : Value} (hb : W.heap[cb]? = some (.cells #[v, .bool false] 69)) (x : Int)
    (hrow : Row base L.own W (6, k) 3 1 v (s.cohA k).length (ints (s.cohA k))) {w0 w1 : World} {g cap : Nat} (h0 : Below W.heap.size W w0) (hg : w0.grownBy w1 v.ownBlock) (hat : v.ownBlock = some g ∨ g = w0.heap.size) (hlt : g < w1.heap.size)
    (hown : w1.ownsRow base 3 1 (.slice (some ⟨g, 0, none⟩) ((s.cohA k).length + 1) cap) ((s.cohA k).length + 1) (ints (s.cohA k) ++ [.int .i64 x])) :
    ∃ L2 : Lay, Mid base L0 w A E B0 B1 B4 e kk { s with cohA := updK s.cohA k (s.cohA k ++ [x]) } L2 (w1.setCell ⟨cb, 0, none⟩ (.slice (some ⟨g, 0, none⟩) ((s.cohA k).length + 1) cap)) := by
  have hpl := lt_of_block hb
  have ho := (m.inv.coh _ _ hl).1
  have hpo : L.own cb ≠ some (6, k) := by rw [ho]; simp
  have c := Chg.of_append (u := .slice (some ⟨g, 0, none⟩) ((s.cohA k).length + 1) cap) (f := 0) m.inv h0 hg hrow.2 hat hlt ho
  have hne := new_ne h0 hrow.2 hat hpl hpo
  refine ⟨L.retag g (6, k), m.step c.ext (m.inv.appCoh k c hl x (v := .slice (some ⟨g, 0, none⟩) ((s.cohA k).length + 1) cap) ?_ (ownsRow_set hown hne) rfl) (fr_append h0 hg hrow.2 ho) m.keys⟩
  have := (grown_kept m.inv h0 hg hrow.2 hpl hpo).trans hb
  rw [heap_setCell_same this]; rfl
theorem mid_run (m : Mid base L0 w A E B0 B1 B4 e kk s L W) {k : K2} {rb : Nat} (hl : L.run.lookup k = some rb) {v : Value} (hb : W.heap[rb]? = some (.cells #[.string ⟨#[]⟩, .bool false, v, .bool false, .bool false] 108)) (x : Int × K2)
    (hrow : Row base L.own W (11, k.1, k.2, 0) 110 3 v (s.runB k).length ((s.runB k).flatMap borCells)) {w0 w1 : World} {g cap : Nat} (h0 : Below W.heap.size W w0) (hg : w0.grownBy w1 v.ownBlock) (hat : v.ownBlock = some g ∨ g = w0.heap.size) (hlt : g < w1.heap.size)
    (hown : w1.ownsRow base 110 3 (.slice (some ⟨g, 0, none⟩) ((s.runB k).length + 1) cap) ((s.runB k).length + 1) ((s.runB k).flatMap borCells ++ borCells x)) :
    ∃ L2 : Lay, Mid base L0 w A E B0 B1 B4 e kk { s with runB := updK s.runB k (s.runB k ++ [x]) } L2 (w1.setCell ⟨rb, 2, none⟩ (.slice (some ⟨g, 0, none⟩) ((s.runB k).length + 1) cap)) := by
  have hpl := lt_of_block hb
  have ho := (m.inv.run _ _ hl).1
  have hpo : L.own rb ≠ some (11, k.1, k.2, 0) := by rw [ho]; simp
  have c := Chg.of_append (u := .slice (some ⟨g, 0, none⟩) ((s.runB k).length + 1) cap) (f := 2) m.inv h0 hg hrow.2 hat hlt ho
  have hne := new_ne h0 hrow.2 hat hpl hpo
  refine ⟨L.retag g (11, k.1, k.2, 0), m.step c.ext (m.inv.appRun k c hl x (v := .slice (some ⟨g, 0, none⟩) ((s.runB k).length + 1) cap) ?_ (ownsRow_set hown hne) rfl) (fr_append h0 hg hrow.2 ho) m.keys⟩
  have := (grown_kept m.inv h0 hg hrow.2 hpl hpo).trans hb
  rw [heap_setCell_same this]; rfl
end
set_option maxRecDepth 100000 in
set_option maxHeartbeats 8000000 in
theorem access_any (e : Ev) (E : Nat) (w : World) (h : Inv base L0 s w) (hok : AccOk s L0 e) (hE : EvAt w E e) (hoE : L0.own E = none) :
    Calls Try.prog 39 #[pv L0.A, pv E] w fun r w' => r = .returned (.tuple #[]) ∧ ∃ L', Inv base L' (accSt s e) w' ∧ Ext w.heap.size L0 L' ∧ Fr L0.own w w' ∧ keysL L' = accKeys (keysL L0) e := by
  have e4 : w.cell? ⟨E, 4, none⟩ = some (.int .i64 e.site) := cell_of_block hE rfl
  have e5 : w.cell? ⟨E, 5, none⟩ = some (.int .i64 e.page) := cell_of_block hE rfl
  have lE : E < w.heap.size := lt_of_block hE
  have lE1 : E < w.heap.size + 1 := by omega
  have lE2 : E < w.heap.size + 1 + 1 := by omega
  have nE0 : w.heap.size ≠ E := by omega
  have nE1 : w.heap.size + 1 ≠ E := by omega
  have nE2 : w.heap.size + 1 + 1 ≠ E := by omega
  have HI : Hid _ := h
  have HOK : Hid _ := hok
  have HE : Hid _ := hE
  have HOE : Hid _ := hoE
  clear h hok hE hoE
  obtain ⟨A, hA⟩ : ∃ A, L0.A = A := ⟨_, rfl⟩
  rw [hA]
  have HA : Hid _ := hA
  clear hA
  go_enter Try.func39, Try.ntmps39
  go_wp2
  go_cut [4] (fun v W => v = pv (w.heap.size + 2) ∧ Hid (Mid base L0 w A E w.heap.size (w.heap.size + 1) (w.heap.size + 2) e (keysL L0) s L0 W))
  case first =>
    -- <1
    go_region
    go_wp2
    go_meet
    case rel => exact ⟨rfl, mid_start HI.out HE.out HOE.out HA.out⟩
    -- 1>
  case rest =>
  obtain ⟨rfl, HM⟩ := hcut
  clear e4 e5 lE lE1 lE2 nE0 nE1 nE2
  generalize hB0 : w.heap.size = B0 at *
  have HB0 : Hid _ := hB0
  clear hB0
  have c2 : wc.cell? ⟨B0, 0, none⟩ = some (pv A) := cell_of_block HM.out.b0 rfl
  have c4 : wc.cell? ⟨B0 + 2, 0, none⟩ = some (.int .i64 e.site) := cell_of_block HM.out.b4 rfl
  have c4' : wc.cell? ⟨B0 + 2, 1, none⟩ = some (.int .i64 e.page) := cell_of_block HM.out.b4 rfl
  go_wp2_with fail
  refine (page_at HM.out.aA e.site e.page _ HM.out.inv).mono ?_
  rintro r w1 ⟨L1, pb, rfl, hpb, hx1, hi1, hf1, hk1⟩
  have HM1 : Hid (Mid base L0 w A E B0 (B0 + 1) (B0 + 2) e (addKey (keysL L0).1 e.pk, (keysL L0).2) s L1 w1) := HM.out.step hx1 hi1 hf1 (by rw [hk1, HM.out.keys]; rfl)
  have HP : Hid (L1.pag.lookup e.pk = some pb) := hpb
  clear c2 c4 c4' hpb hx1 hi1 hf1 hk1 HM wc
  obtain ⟨ah, ch, p1, HC⟩ : ∃ ah ch, w1.cell? ⟨pb, 1, none⟩ = some (.slice ah (s.pagH e.pk).length ch) ∧ Hid (Calls Try.prog 50 #[.slice ah (s.pagH e.pk).length ch, .func (.func 51) #[] #[pv B0, pv (B0 + 1)]] w1 fun r w' => r = .returned (.bool ((s.pagH e.pk).any (hit s.accs e))) ∧ Below w1.heap.size w1 w') := by
    obtain ⟨_, sa, sh, hpbk, hra, hrh⟩ := HM1.out.inv.pag _ _ HP.out
    obtain ⟨ah, ch, rfl, hsl⟩ := hrh.sl
    exact ⟨ah, ch, cell_of_block hpbk rfl, containsHit_any ah ch (s.pagH e.pk) B0 (B0 + 1) (hit s.accs e) w1 hsl HOK.out.lenH (hit_calls HOK.out HM1.out)⟩
  generalize (s.pagH e.pk).length = nh at *
  go_wp2_with fail
  refine Calls.mono HC.out ?_
  rintro r w2 ⟨rfl, hb2⟩
  have HM2 : Hid _ := HM1.out.below hb2
  clear p1 HC hb2 HM1 w1
  obtain ⟨cf, hcf⟩ : ∃ cf, (s.pagH e.pk).any (hit s.accs e) = cf := ⟨_, rfl⟩
  rw [hcf]
  have HCF : Hid _ := hcf
  clear hcf
  go_upto_if 26 with fail
  go_cut [] (fun W => Hid (Mid base L0 w A E B0 (B0 + 1) (B0 + 2) e (addKey (keysL L0).1 e.pk, (keysL L0).2) { s with lc := s.lc + if cf then 1 else 0 } L1 W))
  case first =>
    -- <2
    cases cf with
    | false =>
      go_wp2
      go_meet
      case rel => simpa using HM2
    | true =>
      obtain ⟨sv, hA1, _⟩ := HM2.out.inv.aud
      rw [HM2.out.aA] at hA1
      have c2 : w2.cell? ⟨B0, 0, none⟩ = some (pv A) := cell_of_block HM2.out.b0 rfl
      have d1 : w2.cell? ⟨A, 1, none⟩ = some (.int .i64 s.lc) := cell_of_block hA1 rfl
      have f1 := frozen_of_block hA1
      have hl1 := HOK.out.lc.1
      have hl2 := HOK.out.lc.2
      have HA1 : Hid _ := hA1
      clear hA1
      go_wp2
      go_meet
      case rel => exact mid_rep HM2.out HA1.out 1 (s.lc + 1) s.cv (s.lc + 1) rfl
    -- 2>
  case rest =>
  have HM3 : Hid _ := hcut.out
  clear hcut HM2 w2
  obtain ⟨s3, hs3⟩ : ∃ s3 : St, s3 = { s with lc := s.lc + if cf then 1 else 0 } := ⟨_, rfl⟩
  rw [← hs3] at HM3
  have HS3 : Hid _ := hs3
  clear hs3
  go_wp2
  go_cut [49] (fun v W => v = .bool (chain s e) ∧ Hid (Mid base L0 w A E B0 (B0 + 1) (B0 + 2) e (addKey (keysL L0).1 e.pk, (keysL L0).2) s3 L1 W))
  case first =>
    -- <3
    have c2 : wc.cell? ⟨B0, 0, none⟩ = some (pv A) := cell_of_block HM3.out.b0 rfl
    have c3 : wc.cell? ⟨B0 + 1, 0, none⟩ = some (pv E) := cell_of_block HM3.out.b1 rfl
    have e8 : wc.cell? ⟨E, 8, none⟩ = some (.int .i64 e.lt) := cell_of_block HM3.out.ev rfl
    have e9 : wc.cell? ⟨E, 9, none⟩ = some (.int .i64 e.ln) := cell_of_block HM3.out.ev rfl
    have l2 : B0 < wc.heap.size := lt_of_cell c2
    have l3 : B0 + 1 < wc.heap.size := lt_of_cell c3
    have lE : E < wc.heap.size := lt_of_cell e8
    obtain ⟨bo, hbo⟩ : ∃ bo, e.bor = bo := ⟨_, rfl⟩
    have e7 : wc.cell? ⟨E, 7, none⟩ = some (.bool bo) := by rw [← hbo]; exact cell_of_block HM3.out.ev rfl
    have hr : s3.runB = s.runB := by rw [HS3.out]
    have ha : s3.accs = s.accs := by rw [HS3.out]
    have hcall : Hid (∀ W, Below wc.heap.size wc W → Calls Try.prog 52 #[pv A, .agg #[.int .i64 e.lt, .int .i64 e.ln]] W fun r W' => r = .returned (.bool (!(s.runB e.lend).isEmpty)) ∧ Below W.heap.size W W') := by
      intro W hb
      have m' := HM3.out.below hb
      have := borrows_any e.lt e.ln W m'.inv (by rw [hr, ha]; exact HOK.out.bor) (by rw [ha]; have := HOK.out.len; omega) (by rw [hr]; exact HOK.out.lenR _)
      rw [hr, m'.aA] at this
      exact this
    have HCH : Hid (chain s e = (bo && !(s.runB e.lend).isEmpty)) := by show _ = _; rw [← hbo]; rfl
    clear hbo hr ha
    cases bo with
    | false =>
      go_quiet (fail)
      go_wp2
      go_meet
      case rel => exact ⟨by rw [HCH.out]; rfl, HM3.out.below (below_drewN (Below.refl _ _) _)⟩
    | true =>
      go_region_held3 (fun w' => w'.cell? ⟨B0, 0, none⟩ = some (pv A) ∧ w'.cell? ⟨B0 + 1, 0, none⟩ = some (pv E) ∧ w'.cell? ⟨E, 7, none⟩ = some (.bool true) ∧ w'.cell? ⟨E, 8, none⟩ = some (.int .i64 e.lt) ∧ w'.cell? ⟨E, 9, none⟩ = some (.int .i64 e.ln)) (go_keep)
        ((go_at_call 52; refine (hcall.out _ ?_).mono ?_; exact (Below.refl _ _).drew; rintro r w' ⟨rfl, hb'⟩; have hb : Below wc.heap.size wc w' := (Below.refl _ _).drew.trans hb'; clear hb'; obtain ⟨hc1, hf1⟩ := bcell hb))
      go_wp2
      go_meet
      case rel => exact ⟨by rw [HCH.out]; rfl, HM3.out.below hb⟩
    -- 3>
  case rest =>
  obtain ⟨rfl, HM4⟩ := hcut
  clear HM3
  obtain ⟨chv, hchv⟩ : ∃ chv, chain s e = chv := ⟨_, rfl⟩
  rw [hchv]
  have HCHV : Hid _ := hchv
  clear hchv
  go_upto_if 49 with fail
  go_cut [] (fun W => Hid (Mid base L0 w A E B0 (B0 + 1) (B0 + 2) e (addKey (keysL L0).1 e.pk, (keysL L0).2) { s3 with cv := s3.cv + if chv then 1 else 0 } L1 W))
  case first =>
    -- <4
    cases chv with
    | false =>
      go_wp2
      go_meet
      case rel => simpa using HM4
    | true =>
      obtain ⟨sv, hA1, _⟩ := HM4.out.inv.aud
      rw [HM4.out.aA] at hA1
      have c2 : wc.cell? ⟨B0, 0, none⟩ = some (pv A) := cell_of_block HM4.out.b0 rfl
      have d1 : wc.cell? ⟨A, 5, none⟩ = some (.int .i64 s3.cv) := cell_of_block hA1 rfl
      have f1 := frozen_of_block hA1
      have hcv : s3.cv = s.cv := by rw [HS3.out]
      have hl1 : 0 ≤ s3.cv := by rw [hcv]; exact HOK.out.cv.1
      have hl2 : s3.cv ≤ 1024 := by rw [hcv]; exact HOK.out.cv.2
      have HA1 : Hid _ := hA1
      clear hA1 hcv
      go_wp2
      go_meet
      case rel => exact mid_rep HM4.out HA1.out 5 s3.lc (s3.cv + 1) (s3.cv + 1) rfl
    -- 4>
  case rest =>
  have HM5 : Hid _ := hcut.out
  clear hcut HM4
  obtain ⟨s5, hs5⟩ : ∃ s5 : St, s5 = { s3 with cv := s3.cv + if chv then 1 else 0 } := ⟨_, rfl⟩
  rw [← hs5] at HM5
  have HS5 : Hid (s5 = { s with lc := s.lc + if cf then 1 else 0, cv := s.cv + if chv then 1 else 0 }) := by show _ = _; rw [hs5, HS3.out]
  clear hs5 HS3
  -- region 7: how many accesses there are
  obtain ⟨aa, ca, hA12, HROW⟩ : ∃ aa ca, wc.heap[A]? = some (.cells (audCells L1 s5 (.slice aa s.accs.length ca)) 64) ∧ Hid (Row base L1.own wc (4, 0, 0, 0) 86 6 (.slice aa s.accs.length ca) s.accs.length (s.accs.flatMap accCells)) := by
    obtain ⟨sv, hA1, hrow⟩ := HM5.out.inv.aud
    rw [HM5.out.aA] at hA1
    rw [show s5.accs = s.accs by rw [HS5.out]] at hrow
    rcases hrow.1.2 with ⟨rfl, hn⟩ | ⟨g, cp, cur, rfl, hr⟩
    · exact ⟨none, 0, by rw [hn]; exact hA1, by rw [hn] at hrow ⊢; exact hrow⟩
    · exact ⟨_, _, hA1, hrow⟩
  have c2 : wc.cell? ⟨B0, 0, none⟩ = some (pv A) := cell_of_block HM5.out.b0 rfl
  have a12 : wc.cell? ⟨A, 12, none⟩ = some (.slice aa s.accs.length ca) := cell_of_block hA12 rfl
  have HA12 : Hid _ := hA12
  clear hA12
  go_wp2
  go_cut [] (fun W => ∃ L2 : Lay, Hid (L2.pag = L1.pag) ∧ Hid (Mid base L0 w A E B0 (B0 + 1) (B0 + 2) e (addKey (keysL L0).1 e.pk, (keysL L0).2) { s5 with accs := s.accs ++ [e.acc] } L2 W))
  case first =>
    -- <5
    have c3 : wc.cell? ⟨B0 + 1, 0, none⟩ = some (pv E) := cell_of_block HM5.out.b1 rfl
    have c4 : wc.cell? ⟨B0 + 2, 0, none⟩ = some (.int .i64 e.site) := cell_of_block HM5.out.b4 rfl
    have c4' : wc.cell? ⟨B0 + 2, 1, none⟩ = some (.int .i64 e.page) := cell_of_block HM5.out.b4 rfl
    have e2 : wc.cell? ⟨E, 2, none⟩ = some (.int .i64 e.txn) := cell_of_block HM5.out.ev rfl
    have e3 : wc.cell? ⟨E, 3, none⟩ = some (.int .i64 e.n) := cell_of_block HM5.out.ev rfl
    have e6 : wc.cell? ⟨E, 6, none⟩ = some (.bool e.upd) := cell_of_block HM5.out.ev rfl
    obtain ⟨i0, hi, hz0, hz1, hz2⟩ := info_parts info86
    have hWB : Below wc.heap.size wc (wc.alloc (.cells #[.int .i64 e.txn, .int .i64 e.n, .int .i64 e.site, .int .i64 e.page, .bool e.upd, .bool false] 86)).drew := ((Below.refl _ _).alloc (Nat.le_refl _) _).drew
    have HWB : Hid _ := hWB
    have HOWN : Hid ((wc.alloc (.cells #[.int .i64 e.txn, .int .i64 e.n, .int .i64 e.site, .int .i64 e.page, .bool e.upd, .bool false] 86)).drew.ownsRow base 86 6 (.slice aa s.accs.length ca) s.accs.length (s.accs.flatMap accCells)) :=
      ownsRow_of_block HROW.out.1 fun g hg => hWB.block g (HM5.out.inv.lt g _ (HROW.out.2 g hg)).2
    have HNEW : Hid (∀ j u, (accCells e.acc)[j]? = some u → (wc.alloc (.cells #[.int .i64 e.txn, .int .i64 e.n, .int .i64 e.site, .int .i64 e.page, .bool e.upd, .bool false] 86)).drew.cell? ((⟨wc.heap.size, 0, none⟩ : Addr).add j) = some u) :=
      World.news_of_block (w := (wc.alloc (.cells #[.int .i64 e.txn, .int .i64 e.n, .int .i64 e.site, .int .i64 e.page, .bool e.upd, .bool false] 86)).drew) (heap_at wc _ rfl)
    have HL1 : Hid (s.accs.length + 1 ≤ maxLen) := by have := HOK.out.len; show _ ≤ _; unfold maxLen; omega
    have HL2 : Hid ((s.accs.length + 1) * 40 ≤ 140737488355328) := by have := HOK.out.len; show _ ≤ _; omega
    have HL3 : Hid (base ≤ (wc.alloc (.cells #[.int .i64 e.txn, .int .i64 e.n, .int .i64 e.site, .int .i64 e.page, .bool e.upd, .bool false] 86)).drew.heap.size) := Nat.le_trans HM5.out.inv.base_le hWB.size
    have HL4 : Hid ((wc.alloc (.cells #[.int .i64 e.txn, .int .i64 e.n, .int .i64 e.site, .int .i64 e.page, .bool e.upd, .bool false] 86)).drew.heap.size = wc.heap.size + 1) := by show (wc.alloc _).heap.size = _; simp
    clear hWB
    refine wp_region_noPanic ?_
    refine wp_region_pre 17 (fun w' => w'.cell? ⟨B0, 0, none⟩ = some (pv A) ∧ w'.cell? ⟨A, 12, none⟩ = some (.slice aa s.accs.length ca) ∧ w'.cell? ⟨B0 + 1, 0, none⟩ = some (pv E) ∧ w'.cell? ⟨B0 + 2, 0, none⟩ = some (.int .i64 e.site) ∧ w'.cell? ⟨B0 + 2, 1, none⟩ = some (.int .i64 e.page) ∧
      w'.cell? ⟨E, 2, none⟩ = some (.int .i64 e.txn) ∧ w'.cell? ⟨E, 3, none⟩ = some (.int .i64 e.n) ∧ w'.cell? ⟨E, 6, none⟩ = some (.bool e.upd)) (by kernel_rfl) (by kernel_rfl) ⟨c2, a12, c3, c4, c4', e2, e3, e6⟩ (fun hHeld => ?_)
    simp only [List.take_succ_cons, List.take_zero]
    refine take_at 0 66 (v := ?v0) rfl rfl (by kernel_rfl) (by kernel_rfl) (by kernel_rfl) (fun _ _ _ h => h) (Or.inl ⟨by rfl, ?y0⟩) hHeld ?_
    case y0 => intro w hSw; (try dsimp only at hSw); go_simp <;> with_reducible rfl
    try simp only [Act.put, List.setIfInBounds_toArray, List.set_cons_zero, List.set_cons_succ]
    refine take_at 1 67 (v := ?v1) rfl rfl (by kernel_rfl) (by kernel_rfl) (by kernel_rfl) (fun _ _ _ h => h) (Or.inl ⟨by rfl, ?y1⟩) hHeld ?_
    case y1 => intro w hSw; (try dsimp only at hSw); go_simp <;> with_reducible rfl
    try simp only [Act.put, List.setIfInBounds_toArray, List.set_cons_zero, List.set_cons_succ]
    refine take_at 2 68 (v := ?v2) rfl rfl (by kernel_rfl) (by kernel_rfl) (by kernel_rfl) (fun _ _ _ h => h) (Or.inl ⟨by rfl, ?y2⟩) hHeld ?_
    case y2 => intro w hSw; (try dsimp only at hSw); go_simp <;> with_reducible rfl
    try simp only [Act.put, List.setIfInBounds_toArray, List.set_cons_zero, List.set_cons_succ]
    refine take_at 3 69 (v := ?v3) rfl rfl (by kernel_rfl) (by kernel_rfl) (by kernel_rfl) (fun _ _ _ h => h) (Or.inl ⟨by rfl, ?y3⟩) hHeld ?_
    case y3 => intro w hSw; (try dsimp only at hSw); go_simp <;> with_reducible rfl
    try simp only [Act.put, List.setIfInBounds_toArray, List.set_cons_zero, List.set_cons_succ]
    refine take_at 4 70 (v := ?v4) rfl rfl (by kernel_rfl) (by kernel_rfl) (by kernel_rfl) (fun _ _ _ h => h) (Or.inl ⟨by rfl, ?y4⟩) hHeld ?_
    case y4 => intro w hSw; (try dsimp only at hSw); go_simp <;> with_reducible rfl
    try simp only [Act.put, List.setIfInBounds_toArray, List.set_cons_zero, List.set_cons_succ]
    refine take_at 5 71 (v := ?v5) rfl rfl (by kernel_rfl) (by kernel_rfl) (by kernel_rfl) (fun _ _ _ h => h) (Or.inl ⟨by rfl, ?y5⟩) hHeld ?_
    case y5 => intro w hSw; (try dsimp only at hSw); go_simp <;> with_reducible rfl
    try simp only [Act.put, List.setIfInBounds_toArray, List.set_cons_zero, List.set_cons_succ]
    refine take_at 6 72 (v := ?v6) rfl rfl (by kernel_rfl) (by kernel_rfl) (by kernel_rfl) (fun _ _ _ h => h) (Or.inl ⟨by rfl, ?y6⟩) hHeld ?_
    case y6 => intro w hSw; (try dsimp only at hSw); go_simp <;> with_reducible rfl
    try simp only [Act.put, List.setIfInBounds_toArray, List.set_cons_zero, List.set_cons_succ]
    refine take_at 7 73 (v := ?v7) rfl rfl (by kernel_rfl) (by kernel_rfl) (by kernel_rfl) (fun _ _ _ h => h) (Or.inl ⟨by rfl, ?y7⟩) hHeld ?_
    case y7 => intro w hSw; (try dsimp only at hSw); go_simp <;> with_reducible rfl
    try simp only [Act.put, List.setIfInBounds_toArray, List.set_cons_zero, List.set_cons_succ]
    refine take_at 8 74 (v := ?v8) rfl rfl (by kernel_rfl) (by kernel_rfl) (by kernel_rfl) (fun _ _ _ h => h) (Or.inl ⟨by rfl, ?y8⟩) hHeld ?_
    case y8 => intro w hSw; (try dsimp only at hSw); go_simp <;> with_reducible rfl
    try simp only [Act.put, List.setIfInBounds_toArray, List.set_cons_zero, List.set_cons_succ]
    refine take_at 9 75 (v := ?v9) rfl rfl (by kernel_rfl) (by kernel_rfl) (by kernel_rfl) (fun _ _ _ h => h) (Or.inl ⟨by rfl, ?y9⟩) hHeld ?_
    case y9 => intro w hSw; (try dsimp only at hSw); go_simp <;> with_reducible rfl
    try simp only [Act.put, List.setIfInBounds_toArray, List.set_cons_zero, List.set_cons_succ]
    refine take_at 10 76 (v := ?v10) rfl rfl (by kernel_rfl) (by kernel_rfl) (by kernel_rfl) (fun _ _ _ h => h) (Or.inl ⟨by rfl, ?y10⟩) hHeld ?_
    case y10 => intro w hSw; (try dsimp only at hSw); go_simp <;> with_reducible rfl
    try simp only [Act.put, List.setIfInBounds_toArray, List.set_cons_zero, List.set_cons_succ]
    refine take_at 11 77 (v := ?v11) rfl rfl (by kernel_rfl) (by kernel_rfl) (by kernel_rfl) (fun _ _ _ h => h) (Or.inl ⟨by rfl, ?y11⟩) hHeld ?_
    case y11 => intro w hSw; (try dsimp only at hSw); go_simp <;> with_reducible rfl
    try simp only [Act.put, List.setIfInBounds_toArray, List.set_cons_zero, List.set_cons_succ]
    refine take_at 12 78 (v := ?v12) rfl rfl (by kernel_rfl) (by kernel_rfl) (by kernel_rfl) (fun _ _ _ h => h) (Or.inl ⟨by rfl, ?y12⟩) hHeld ?_
    case y12 => intro w hSw; (try dsimp only at hSw); go_simp <;> with_reducible rfl
    try simp only [Act.put, List.setIfInBounds_toArray, List.set_cons_zero, List.set_cons_succ]
    refine take_at 13 79 (v := ?v13) rfl rfl (by kernel_rfl) (by kernel_rfl) (by kernel_rfl) (fun _ _ _ h => h) (Or.inl ⟨by rfl, ?y13⟩) hHeld ?_
    case y13 => intro w hSw; (try dsimp only at hSw); go_simp <;> with_reducible rfl
    try simp only [Act.put, List.setIfInBounds_toArray, List.set_cons_zero, List.set_cons_succ]
    refine take_at 14 80 (v := ?v14) rfl rfl (by kernel_rfl) (by kernel_rfl) (by kernel_rfl) (fun _ _ _ h => h) (Or.inl ⟨by rfl, ?y14⟩) hHeld ?_
    case y14 => intro w hSw; (try dsimp only at hSw); go_simp <;> with_reducible rfl
    try simp only [Act.put, List.setIfInBounds_toArray, List.set_cons_zero, List.set_cons_succ]
    refine wpAnyH_ready (rs := [15]) (by kernel_rfl) (by simp) ?_
    refine AllReadyH.cons rfl (fun K hK => ?_) AllReadyH.nil
    go_simp
    refine hK.out _ _ ?_ (fun hHeld => ?_)
    · obtain ⟨hcc, _⟩ := bcell (HWB.out)
      exact ⟨(hcc B0 0 (lt_of_cell c2)).trans c2, (hcc A 12 (lt_of_cell a12)).trans a12, (hcc (B0 + 1) 0 (lt_of_cell c3)).trans c3, (hcc (B0 + 2) 0 (lt_of_cell c4)).trans c4, (hcc (B0 + 2) 1 (lt_of_cell c4)).trans c4', (hcc E 2 (lt_of_cell e2)).trans e2, (hcc E 3 (lt_of_cell e2)).trans e3, (hcc E 6 (lt_of_cell e2)).trans e6⟩
    clear hK K
    try simp only [Act.put, List.setIfInBounds_toArray, List.set_cons_zero, List.set_cons_succ]
    refine wpAnyH_ready (rs := [16]) (by kernel_rfl) (by simp) ?_
    refine AllReadyH.cons rfl (fun K hK => ?_) AllReadyH.nil
    refine step_append_lies _ (by rfl) (.tmp 70) (.tmp 81) 62 (by rfl) base 86 i0 _ 6 40 Try.underlying62 hi hz0 hz1 hz2 rfl (by decide) (.slice aa s.accs.length ca) s.accs.length (s.accs.flatMap accCells) (by rfl) HOWN.out ⟨wc.heap.size, 0, none⟩ 1 1 (accCells e.acc) (by rfl) rfl HNEW.out (acc_oneCell _) (by omega) HL1.out HL2.out HL3.out (wc.heap.size + 1) HL4.out ?_
    intro g cap w1 hown1 hgrow hat hglt
    have hkp := fun {b : Nat} (hl : b < wc.heap.size) (hb : L1.own b ≠ some (4, 0, 0, 0)) => grown_kept HM5.out.inv HWB.out hgrow HROW.out.2 hl hb
    have hkA : w1.heap[A]? = wc.heap[A]? := hkp (lt_of_cell a12) (by rw [← HM5.out.aA, HM5.out.inv.tA]; simp)
    have hkc := fun {b : Nat} (o : Nat) {v : Value} (hc : wc.cell? ⟨b, o, none⟩ = some v) (hb : L1.own b = none) => (World.cell?_of_block (a := ⟨b, o, none⟩) (hkp (lt_of_cell hc) (by rw [hb]; simp))).trans hc
    have a12' : w1.cell? ⟨A, 12, none⟩ = some (.slice aa s.accs.length ca) := (World.cell?_of_block (a := ⟨A, 12, none⟩) hkA).trans a12
    have f12 := frozen_of_block (hkA.trans HA12.out)
    change K (Act.put _ (some 82) _) w1
    simp only [Act.put, List.setIfInBounds_toArray, List.set_cons_zero, List.set_cons_succ]
    refine hK.out _ _ ?_ (fun hHeld => ?_)
    · exact ⟨hkc 0 c2 HM5.out.o0, a12', hkc 0 c3 HM5.out.o1, hkc 0 c4 HM5.out.o4, hkc 1 c4' HM5.out.o4, hkc 2 e2 HM5.out.oE, hkc 3 e3 HM5.out.oE, hkc 6 e6 HM5.out.oE⟩
    have HFIN : Hid _ := mid_acc' HS5.out HM5.out HA12.out HROW.out HWB.out hgrow (by rw [HL4.out]; exact hat) hglt hown1
    clear hK K hHeld hkp hkA hkc hown1 hgrow hat hglt c2 a12 c3 c4 c4' e2 e3 e6 HWB HOWN HNEW
    refine wpAnyH_done (by kernel_rfl) ?_ _
    simp only [Exit.then, List.length_cons, List.length_nil]
    refine wpAny_ready (rs := [17]) (by kernel_rfl) (by simp) ?_
    refine AllReady.cons rfl (fun K hK => ?_) AllReady.nil
    go_simp
    refine hK _ _ ?_
    clear hK K
    refine wpAny_ready (rs := [18]) (by kernel_rfl) (by simp) ?_
    refine AllReady.cons rfl (fun K hK => ?_) AllReady.nil
    go_simp
    refine hK _ _ ?_
    clear hK K
    refine wpAny_ready (rs := [19]) (by kernel_rfl) (by simp) ?_
    refine AllReady.cons rfl (fun K hK => ?_) AllReady.nil
    go_simp
    refine hK _ _ ?_
    clear hK K
    refine wpAny_done (by kernel_rfl) ?_ _
    refine NoPanic.normal ?_
    go_wp2
    go_meet
    case rel => exact HFIN.out
    -- 5>
  case rest =>
  obtain ⟨L2, HPG, HM6⟩ := hcut
  have HP2 : Hid (L2.pag.lookup e.pk = some pb) := by show _ = _; rw [HPG.out]; exact HP.out
  clear HM5 HROW HA12 c2 a12 HPG HP
  obtain ⟨s6, hs6⟩ : ∃ s6 : St, s6 = { s5 with accs := s.accs ++ [e.acc] } := ⟨_, rfl⟩
  rw [← hs6] at HM6
  have HS6 : Hid (s6 = { s with lc := s.lc + if cf then 1 else 0, cv := s.cv + if chv then 1 else 0, accs := s.accs ++ [e.acc] }) := by show _ = _; rw [hs6, HS5.out]
  clear hs6 HS5
  obtain ⟨n, hn⟩ : ∃ n, s.accs.length = n := ⟨_, rfl⟩
  rw [hn]
  have HN : Hid _ := hn
  clear hn
  obtain ⟨i0, hi, hz0, hz1, hz2⟩ := info_parts info3
  go_upto_region 9 with fail
  go_cut [] (fun W => ∃ L3 : Lay, Hid (L3.pag.lookup e.pk = some pb) ∧ Hid (Mid base L0 w A E B0 (B0 + 1) (B0 + 2) e (addKey (keysL L0).1 e.pk, (keysL L0).2) { s6 with pagA := updK s6.pagA e.pk (s6.pagA e.pk ++ [(n : Int)]) } L3 W))
  case first =>
    -- <6
    obtain ⟨ho, sa, sh, hpb, hra, hrh⟩ := HM6.out.inv.pag _ _ HP2.out
    obtain ⟨ap, cp, hsa, _⟩ := hra.sl
    obtain ⟨np, hnp⟩ : ∃ np, (s6.pagA e.pk).length = np := ⟨_, rfl⟩
    have hnl : np ≤ 1024 := by rw [← hnp, show s6.pagA = s.pagA by rw [HS6.out]]; exact HOK.out.lenA
    rw [hnp] at hsa
    subst hsa
    have p0 : wc.cell? ⟨pb, 0, none⟩ = some (.slice ap np cp) := cell_of_block hpb rfl
    have lp : pb < wc.heap.size := lt_of_cell p0
    have hWB : Below wc.heap.size wc (wc.alloc (.cells #[.int .i64 n] 3)) := (Below.refl _ _).alloc (Nat.le_refl _) _
    have HOWN : Hid ((wc.alloc (.cells #[.int .i64 n] 3)).ownsRow base 3 1 (.slice ap np cp) np (ints (s6.pagA e.pk))) :=
      ownsRow_of_block (by rw [← hnp]; exact (by rw [← hnp] at hra; exact hra.1)) fun g hg => hWB.block g (HM6.out.inv.lt g _ (hra.2 g hg)).2
    have HNEW : Hid (∀ j u, ([.int .i64 (n : Int)] : List Value)[j]? = some u → (wc.alloc (.cells #[.int .i64 n] 3)).cell? ((⟨wc.heap.size, 0, none⟩ : Addr).add j) = some u) := World.news_of_block (heap_at wc _ rfl)
    have HBASE : Hid (base ≤ (wc.alloc (.cells #[.int .i64 n] 3)).heap.size) := Nat.le_trans HM6.out.inv.base_le hWB.size
    have HRA : Hid _ := hra
    have HPB : Hid _ := hpb
    have HNP : Hid _ := hnp
    have HWB : Hid _ := hWB
    have HO : Hid _ := ho
    clear hra hrh hpb hnp hWB ho
    go_wp2_with (at_builtin; refine wpList_append_lies _ rfl _ _ 33 rfl base 3 i0 (.int .i64 0) 1 8 Try.underlying33 hi hz0 hz1 hz2 rfl (by decide) (.slice ap np cp) np (ints (s6.pagA e.pk)) rfl HOWN.out ⟨wc.heap.size, 0, none⟩ 1 1 [.int .i64 (n : Int)] rfl rfl HNEW.out (ints_oneCell .i64 [(n : Int)]) (by omega) (by unfold maxLen; omega) (by omega) HBASE.out (wc.heap.size + 1) (by simp) ?_; intro g cap w1 hown1 hgrow hat hglt; have hkb := (grown_kept HM6.out.inv HWB.out hgrow HRA.out.2 lp (by rw [HO.out]; simp)).trans HPB.out; have p0' : w1.cell? ⟨pb, 0, none⟩ = some (.slice ap np cp) := cell_of_block hkb rfl; have f0 := frozen_of_block hkb; have HK1 : Hid _ := hown1; have HK2 : Hid _ := hgrow; have HK3 : Hid _ := hat; clear hown1 hgrow hat hkb)
    go_wp2
    go_meet
    case rel =>
      obtain ⟨L3, hp3, hm3⟩ := mid_pagA HM6.out HP2.out HPB.out n HRA.out HWB.out HK2.out (by simpa using HK3.out) hglt (by rw [HNP.out]; exact HK1.out)
      rw [HNP.out] at hm3
      exact ⟨L3, by show _ = _; rw [hp3]; exact HP2.out, hm3⟩
    -- 6>
  case rest =>
  obtain ⟨L3, HP3, HM7⟩ := hcut
  clear HM6 HP2
  obtain ⟨s7, hs7⟩ : ∃ s7 : St, s7 = { s6 with pagA := updK s6.pagA e.pk (s6.pagA e.pk ++ [(n : Int)]) } := ⟨_, rfl⟩
  rw [← hs7] at HM7
  have HS7 : Hid (s7 = { s with lc := s.lc + if cf then 1 else 0, cv := s.cv + if chv then 1 else 0, accs := s.accs ++ [e.acc], pagA := updK s.pagA e.pk (s.pagA e.pk ++ [(n : Int)]) }) := by show _ = _; rw [hs7, HS6.out]
  clear hs7 HS6
  go_upto_region 10 with fail
  go_cut [] (fun W => ∃ L4 : Lay, Hid (Mid base L0 w A E B0 (B0 + 1) (B0 + 2) e (addKey (keysL L0).1 e.pk, (keysL L0).2) { s7 with pagH := updK s7.pagH e.pk (s7.pagH e.pk ++ [(n : Int)]) } L4 W))
  case first =>
    -- <7
    obtain ⟨ho, sa, sh, hpb, hra, hrh⟩ := HM7.out.inv.pag _ _ HP3.out
    obtain ⟨ap, cp, hsa, _⟩ := hrh.sl
    obtain ⟨np, hnp⟩ : ∃ np, (s7.pagH e.pk).length = np := ⟨_, rfl⟩
    have hnl : np ≤ 1024 := by rw [← hnp, show s7.pagH = s.pagH by rw [HS7.out]]; exact HOK.out.lenH
    rw [hnp] at hsa
    subst hsa
    have p0 : wc.cell? ⟨pb, 1, none⟩ = some (.slice ap np cp) := cell_of_block hpb rfl
    have lp : pb < wc.heap.size := lt_of_cell p0
    have hWB : Below wc.heap.size wc (wc.alloc (.cells #[.int .i64 n] 3)) := (Below.refl _ _).alloc (Nat.le_refl _) _
    have HOWN : Hid ((wc.alloc (.cells #[.int .i64 n] 3)).ownsRow base 3 1 (.slice ap np cp) np (ints (s7.pagH e.pk))) :=
      ownsRow_of_block (by rw [← hnp]; exact (by rw [← hnp] at hrh; exact hrh.1)) fun g hg => hWB.block g (HM7.out.inv.lt g _ (hrh.2 g hg)).2
    have HNEW : Hid (∀ j u, ([.int .i64 (n : Int)] : List Value)[j]? = some u → (wc.alloc (.cells #[.int .i64 n] 3)).cell? ((⟨wc.heap.size, 0, none⟩ : Addr).add j) = some u) := World.news_of_block (heap_at wc _ rfl)
    have HBASE : Hid (base ≤ (wc.alloc (.cells #[.int .i64 n] 3)).heap.size) := Nat.le_trans HM7.out.inv.base_le hWB.size
    have HRA : Hid _ := hrh
    have HPB : Hid _ := hpb
    have HNP : Hid _ := hnp
    have HWB : Hid _ := hWB
    have HO : Hid _ := ho
    clear hra hrh hpb hnp hWB ho
    go_wp2_with (at_builtin; refine wpList_append_lies _ rfl _ _ 33 rfl base 3 i0 (.int .i64 0) 1 8 Try.underlying33 hi hz0 hz1 hz2 rfl (by decide) (.slice ap np cp) np (ints (s7.pagH e.pk)) rfl HOWN.out ⟨wc.heap.size, 0, none⟩ 1 1 [.int .i64 (n : Int)] rfl rfl HNEW.out (ints_oneCell .i64 [(n : Int)]) (by omega) (by unfold maxLen; omega) (by omega) HBASE.out (wc.heap.size + 1) (by simp) ?_; intro g cap w1 hown1 hgrow hat hglt; have hkb := (grown_kept HM7.out.inv HWB.out hgrow HRA.out.2 lp (by rw [HO.out]; simp)).trans HPB.out; have p0' : w1.cell? ⟨pb, 1, none⟩ = some (.slice ap np cp) := cell_of_block hkb rfl; have f0 := frozen_of_block hkb; have HK1 : Hid _ := hown1; have HK2 : Hid _ := hgrow; have HK3 : Hid _ := hat; clear hown1 hgrow hat hkb)
    go_wp2
    go_meet
    case rel =>
      obtain ⟨L4, _, hm3⟩ := mid_pagH HM7.out HP3.out HPB.out n HRA.out HWB.out HK2.out (by simpa using HK3.out) hglt (by rw [HNP.out]; exact HK1.out)
      rw [HNP.out] at hm3
      exact ⟨L4, hm3⟩
    -- 7>
  case rest =>
  obtain ⟨L4, HM8⟩ := hcut
  clear HM7 HP3
  obtain ⟨s8, hs8⟩ : ∃ s8 : St, s8 = { s7 with pagH := updK s7.pagH e.pk (s7.pagH e.pk ++ [(n : Int)]) } := ⟨_, rfl⟩
  rw [← hs8] at HM8
  have HS8 : Hid (s8 = { s with lc := s.lc + if cf then 1 else 0, cv := s.cv + if chv then 1 else 0, accs := s.accs ++ [e.acc], pagA := updK s.pagA e.pk (s.pagA e.pk ++ [(n : Int)]), pagH := updK s.pagH e.pk (s.pagH e.pk ++ [(n : Int)]) }) := by show _ = _; rw [hs8, HS7.out]
  clear hs8 HS7
  go_upto_region 11 with fail
  go_cut [7] (fun v W => ∃ (L5 : Lay) (cb : Nat), v = pv cb ∧ Hid (L5.coh.lookup e.ck = some cb) ∧ Hid (Mid base L0 w A E B0 (B0 + 1) (B0 + 2) e (addKey (keysL L0).1 e.pk, addKey (keysL L0).2.1 e.ck, (keysL L0).2.2) s8 L5 W))
  case first =>
    -- <8
    have c2 : wc.cell? ⟨B0, 0, none⟩ = some (pv A) := cell_of_block HM8.out.b0 rfl
    have c3 : wc.cell? ⟨B0 + 1, 0, none⟩ = some (pv E) := cell_of_block HM8.out.b1 rfl
    have e2 : wc.cell? ⟨E, 2, none⟩ = some (.int .i64 e.txn) := cell_of_block HM8.out.ev rfl
    have e3 : wc.cell? ⟨E, 3, none⟩ = some (.int .i64 e.n) := cell_of_block HM8.out.ev rfl
    have e4 : wc.cell? ⟨E, 4, none⟩ = some (.int .i64 e.site) := cell_of_block HM8.out.ev rfl
    have HC : Hid (Calls Try.prog 31 #[pv A, .agg #[.int .i64 e.txn, .int .i64 e.n], .int .i64 e.site] wc.drew fun r w' => ∃ (L' : Lay) (b : Nat), r = .returned (pv b) ∧ (w'.cell? ⟨B0, 0, none⟩ = some (pv A) ∧ w'.cell? ⟨B0 + 1, 0, none⟩ = some (pv E) ∧ w'.cell? ⟨E, 2, none⟩ = some (.int .i64 e.txn) ∧ w'.cell? ⟨E, 3, none⟩ = some (.int .i64 e.n) ∧ w'.cell? ⟨E, 4, none⟩ = some (.int .i64 e.site)) ∧ Hid (L'.coh.lookup e.ck = some b) ∧ Hid (Mid base L0 w A E B0 (B0 + 1) (B0 + 2) e (addKey (keysL L0).1 e.pk, addKey (keysL L0).2.1 e.ck, (keysL L0).2.2) s8 L' w')) := by
      have md := HM8.out.below (Below.refl wc.heap.size wc).drew
      refine (cohort_at md.aA e.txn e.n e.site _ md.inv).mono ?_
      rintro r w' ⟨L', b, rfl, h1, h2, h3, h4, h5⟩
      have m' := md.step h2 h3 h4 h5
      refine ⟨L', b, rfl, ⟨cell_of_block m'.b0 rfl, cell_of_block m'.b1 rfl, cell_of_block m'.ev rfl, cell_of_block m'.ev rfl, cell_of_block m'.ev rfl⟩, h1, ?_⟩
      rw [md.keys] at m'
      exact m'
    go_region_held3 (fun w' => w'.cell? ⟨B0, 0, none⟩ = some (pv A) ∧ w'.cell? ⟨B0 + 1, 0, none⟩ = some (pv E) ∧ w'.cell? ⟨E, 2, none⟩ = some (.int .i64 e.txn) ∧ w'.cell? ⟨E, 3, none⟩ = some (.int .i64 e.n) ∧ w'.cell? ⟨E, 4, none⟩ = some (.int .i64 e.site)) (first | assumption | go_keep)
      ((go_at_call 31; refine Calls.mono HC.out ?_; rintro r w' ⟨L5, cb, rfl, hcells, H1, H2⟩))
    go_wp2
    go_meet
    case rel => exact ⟨L5, cb, rfl, H1, H2⟩
    -- 8>
  case rest =>
  obtain ⟨L5, cb, rfl, HCB, HM9⟩ := hcut
  clear HM8
  go_upto_region 12 with fail
  go_cut [] (fun W => ∃ L6 : Lay, Hid (Mid base L0 w A E B0 (B0 + 1) (B0 + 2) e (addKey (keysL L0).1 e.pk, addKey (keysL L0).2.1 e.ck, (keysL L0).2.2) { s8 with cohA := updK s8.cohA e.ck (s8.cohA e.ck ++ [(n : Int)]) } L6 W))
  case first =>
    -- <9
    obtain ⟨ho, sa, hpb, hra⟩ := HM9.out.inv.coh _ _ HCB.out
    obtain ⟨ap, cp, hsa, _⟩ := hra.sl
    obtain ⟨np, hnp⟩ : ∃ np, (s8.cohA e.ck).length = np := ⟨_, rfl⟩
    have hnl : np ≤ 1024 := by rw [← hnp, show s8.cohA = s.cohA by rw [HS8.out]]; exact HOK.out.lenC
    rw [hnp] at hsa
    subst hsa
    have p0 : wc.cell? ⟨cb, 0, none⟩ = some (.slice ap np cp) := cell_of_block hpb rfl
    have lp : cb < wc.heap.size := lt_of_cell p0
    have hWB : Below wc.heap.size wc (wc.alloc (.cells #[.int .i64 n] 3)) := (Below.refl _ _).alloc (Nat.le_refl _) _
    have HOWN : Hid ((wc.alloc (.cells #[.int .i64 n] 3)).ownsRow base 3 1 (.slice ap np cp) np (ints (s8.cohA e.ck))) :=
      ownsRow_of_block (by rw [← hnp]; exact (by rw [← hnp] at hra; exact hra.1)) fun g hg => hWB.block g (HM9.out.inv.lt g _ (hra.2 g hg)).2
    have HNEW : Hid (∀ j u, ([.int .i64 (n : Int)] : List Value)[j]? = some u → (wc.alloc (.cells #[.int .i64 n] 3)).cell? ((⟨wc.heap.size, 0, none⟩ : Addr).add j) = some u) := World.news_of_block (heap_at wc _ rfl)
    have HBASE : Hid (base ≤ (wc.alloc (.cells #[.int .i64 n] 3)).heap.size) := Nat.le_trans HM9.out.inv.base_le hWB.size
    have HRA : Hid _ := hra
    have HPB : Hid _ := hpb
    have HNP : Hid _ := hnp
    have HWB : Hid _ := hWB
    have HO : Hid _ := ho
    clear hra hpb hnp hWB ho
    go_wp2_with (at_builtin; refine wpList_append_lies _ rfl _ _ 33 rfl base 3 i0 (.int .i64 0) 1 8 Try.underlying33 hi hz0 hz1 hz2 rfl (by decide) (.slice ap np cp) np (ints (s8.cohA e.ck)) rfl HOWN.out ⟨wc.heap.size, 0, none⟩ 1 1 [.int .i64 (n : Int)] rfl rfl HNEW.out (ints_oneCell .i64 [(n : Int)]) (by omega) (by unfold maxLen; omega) (by omega) HBASE.out (wc.heap.size + 1) (by simp) ?_; intro g cap w1 hown1 hgrow hat hglt; have hkb := (grown_kept HM9.out.inv HWB.out hgrow HRA.out.2 lp (by rw [HO.out]; simp)).trans HPB.out; have p0' : w1.cell? ⟨cb, 0, none⟩ = some (.slice ap np cp) := cell_of_block hkb rfl; have f0 := frozen_of_block hkb; have HK1 : Hid _ := hown1; have HK2 : Hid _ := hgrow; have HK3 : Hid _ := hat; clear hown1 hgrow hat hkb)
    go_wp2
    go_meet
    case rel =>
      obtain ⟨L6, hm3⟩ := mid_coh HM9.out HCB.out HPB.out n HRA.out HWB.out HK2.out (by simpa using HK3.out) hglt (by rw [HNP.out]; exact HK1.out)
      rw [HNP.out] at hm3
      exact ⟨L6, hm3⟩
    -- 9>
  case rest =>
  obtain ⟨L6, HM10⟩ := hcut
  clear HM9 HCB hi hz0 hz1 hz2 i0
  obtain ⟨s9, hs9⟩ : ∃ s9 : St, s9 = { s8 with cohA := updK s8.cohA e.ck (s8.cohA e.ck ++ [(n : Int)]) } := ⟨_, rfl⟩
  rw [← hs9] at HM10
  have HS9 : Hid (s9 = { s with lc := s.lc + if cf then 1 else 0, cv := s.cv + if chv then 1 else 0, accs := s.accs ++ [e.acc], pagA := updK s.pagA e.pk (s.pagA e.pk ++ [(n : Int)]), pagH := updK s.pagH e.pk (s.pagH e.pk ++ [(n : Int)]), cohA := updK s.cohA e.ck (s.cohA e.ck ++ [(n : Int)]) }) := by show _ = _; rw [hs9, HS8.out]
  clear hs9 HS8
  have c3 : wc.cell? ⟨B0 + 1, 0, none⟩ = some (pv E) := cell_of_block HM10.out.b1 rfl
  obtain ⟨bo, hbo⟩ : ∃ bo, e.bor = bo := ⟨_, rfl⟩
  have e7 : wc.cell? ⟨E, 7, none⟩ = some (.bool bo) := by rw [← hbo]; exact cell_of_block HM10.out.ev rfl
  have HBO : Hid _ := hbo
  clear hbo
  cases bo with
  | false =>
    -- <10
    go_wp2
    go_end0
    refine ⟨rfl, L6, ?_, HM10.out.ext, HM10.out.fr, ?_⟩
    · have := HM10.out.inv
      rw [HS9.out, ← HN.out, ← HCF.out, ← HCHV.out] at this
      have h2 : accSt s e = { s with lc := s.lc + if (s.pagH e.pk).any (hit s.accs e) then 1 else 0, cv := s.cv + if chain s e then 1 else 0, accs := s.accs ++ [e.acc], pagA := updK s.pagA e.pk (s.pagA e.pk ++ [(s.accs.length : Int)]), pagH := updK s.pagH e.pk (s.pagH e.pk ++ [(s.accs.length : Int)]), cohA := updK s.cohA e.ck (s.cohA e.ck ++ [(s.accs.length : Int)]) } := by
        simp only [accSt, HBO.out, conflict]
        rfl
      rw [h2]; exact this
    · rw [HM10.out.keys]; simp [accKeys, HBO.out]
    -- 10>
  | true =>
  go_upto_region 14 with fail
  go_cut [8] (fun v W => ∃ (L7 : Lay) (rb : Nat), v = pv rb ∧ Hid (L7.run.lookup e.who = some rb) ∧ Hid (Mid base L0 w A E B0 (B0 + 1) (B0 + 2) e (addKey (keysL L0).1 e.pk, addKey (keysL L0).2.1 e.ck, addKey (keysL L0).2.2 e.who) s9 L7 W))
  case first =>
    -- <11
    have c2 : wc.cell? ⟨B0, 0, none⟩ = some (pv A) := cell_of_block HM10.out.b0 rfl
    have e2 : wc.cell? ⟨E, 2, none⟩ = some (.int .i64 e.txn) := cell_of_block HM10.out.ev rfl
    have e3 : wc.cell? ⟨E, 3, none⟩ = some (.int .i64 e.n) := cell_of_block HM10.out.ev rfl
    have HC : Hid (Calls Try.prog 53 #[pv A, .agg #[.int .i64 e.txn, .int .i64 e.n]] wc.drew fun r w' => ∃ (L' : Lay) (b : Nat), r = .returned (pv b) ∧ (w'.cell? ⟨B0, 0, none⟩ = some (pv A) ∧ w'.cell? ⟨B0 + 1, 0, none⟩ = some (pv E) ∧ w'.cell? ⟨E, 2, none⟩ = some (.int .i64 e.txn) ∧ w'.cell? ⟨E, 3, none⟩ = some (.int .i64 e.n)) ∧ Hid (L'.run.lookup e.who = some b) ∧ Hid (Mid base L0 w A E B0 (B0 + 1) (B0 + 2) e (addKey (keysL L0).1 e.pk, addKey (keysL L0).2.1 e.ck, addKey (keysL L0).2.2 e.who) s9 L' w')) := by
      have md := HM10.out.below (Below.refl wc.heap.size wc).drew
      refine (run_at md.aA e.txn e.n _ md.inv).mono ?_
      rintro r w' ⟨L', b, rfl, h1, h2, h3, h4, h5⟩
      have m' := md.step h2 h3 h4 h5
      refine ⟨L', b, rfl, ⟨cell_of_block m'.b0 rfl, cell_of_block m'.b1 rfl, cell_of_block m'.ev rfl, cell_of_block m'.ev rfl⟩, h1, ?_⟩
      rw [md.keys] at m'
      exact m'
    go_region_held3 (fun w' => w'.cell? ⟨B0, 0, none⟩ = some (pv A) ∧ w'.cell? ⟨B0 + 1, 0, none⟩ = some (pv E) ∧ w'.cell? ⟨E, 2, none⟩ = some (.int .i64 e.txn) ∧ w'.cell? ⟨E, 3, none⟩ = some (.int .i64 e.n)) (first | assumption | go_keep)
      ((go_at_call 53; refine Calls.mono HC.out ?_; rintro r w' ⟨L7, rb, rfl, hcells, H1, H2⟩))
    go_wp2
    go_meet
    case rel => exact ⟨L7, rb, rfl, H1, H2⟩
    -- 11>
  case rest =>
  obtain ⟨L7, rb, rfl, HRB, HM11⟩ := hcut
  clear HM10 c3 e7
  go_upto_region 15 with fail
  -- <12
  obtain ⟨ho, sa, hpb, hra⟩ := HM11.out.inv.run _ _ HRB.out
  obtain ⟨np, hnp⟩ : ∃ np, (s9.runB e.who).length = np := ⟨_, rfl⟩
  obtain ⟨ap, cp, hsa⟩ : ∃ ap cp, sa = .slice ap np cp := by
    rcases hra.1.2 with ⟨rfl, h0⟩ | ⟨g, c, cur, rfl, _⟩
    · exact ⟨none, 0, by rw [← hnp, h0]⟩
    · exact ⟨_, _, by rw [hnp]⟩
  have hnl : np ≤ 1024 := by rw [← hnp, show s9.runB = s.runB by rw [HS9.out]]; exact HOK.out.lenR _
  subst hsa
  have p2 : wc.cell? ⟨rb, 2, none⟩ = some (.slice ap np cp) := cell_of_block hpb rfl
  have lp : rb < wc.heap.size := lt_of_cell p2
  have c3 : wc.cell? ⟨B0 + 1, 0, none⟩ = some (pv E) := cell_of_block HM11.out.b1 rfl
  have e8 : wc.cell? ⟨E, 8, none⟩ = some (.int .i64 e.lt) := cell_of_block HM11.out.ev rfl
  have e9 : wc.cell? ⟨E, 9, none⟩ = some (.int .i64 e.ln) := cell_of_block HM11.out.ev rfl
  obtain ⟨i0, hi, hz0, hz1, hz2⟩ := info_parts info110
  have hWB : Below wc.heap.size wc (wc.alloc (.cells #[.int .i64 n, .int .i64 e.lt, .int .i64 e.ln] 110)).drew := ((Below.refl _ _).alloc (Nat.le_refl _) _).drew
  have HOWN : Hid ((wc.alloc (.cells #[.int .i64 n, .int .i64 e.lt, .int .i64 e.ln] 110)).drew.ownsRow base 110 3 (.slice ap np cp) np ((s9.runB e.who).flatMap borCells)) :=
    ownsRow_of_block (by rw [← hnp]; exact (by rw [← hnp] at hra; exact hra.1)) fun g hg => hWB.block g (HM11.out.inv.lt g _ (hra.2 g hg)).2
  have HNEW : Hid (∀ j u, (borCells ((n : Int), e.lend))[j]? = some u → (wc.alloc (.cells #[.int .i64 n, .int .i64 e.lt, .int .i64 e.ln] 110)).drew.cell? ((⟨wc.heap.size, 0, none⟩ : Addr).add j) = some u) :=
    World.news_of_block (w := (wc.alloc (.cells #[.int .i64 n, .int .i64 e.lt, .int .i64 e.ln] 110)).drew) (heap_at wc _ rfl)
  have HL1 : Hid (np + 1 ≤ maxLen) := by show _ ≤ _; unfold maxLen; omega
  have HL2 : Hid ((np + 1) * 24 ≤ 140737488355328) := by show _ ≤ _; omega
  have HL3 : Hid (base ≤ (wc.alloc (.cells #[.int .i64 n, .int .i64 e.lt, .int .i64 e.ln] 110)).drew.heap.size) := Nat.le_trans HM11.out.inv.base_le hWB.size
  have HL4 : Hid ((wc.alloc (.cells #[.int .i64 n, .int .i64 e.lt, .int .i64 e.ln] 110)).drew.heap.size = wc.heap.size + 1) := by show (wc.alloc _).heap.size = _; simp
  have HRA : Hid _ := hra
  have HPB : Hid _ := hpb
  have HNP : Hid _ := hnp
  have HWB : Hid _ := hWB
  have HO : Hid _ := ho
  clear hra hpb hnp hWB ho
  refine wp_region_noPanic ?_
  refine wp_region_pre 13 (fun w' => w'.cell? ⟨rb, 2, none⟩ = some (.slice ap np cp) ∧ w'.cell? ⟨B0 + 1, 0, none⟩ = some (pv E) ∧ w'.cell? ⟨E, 8, none⟩ = some (.int .i64 e.lt) ∧ w'.cell? ⟨E, 9, none⟩ = some (.int .i64 e.ln)) (by kernel_rfl) (by kernel_rfl) ⟨p2, c3, e8, e9⟩ (fun hHeld => ?_)
  simp only [List.take_succ_cons, List.take_zero]
  refine take_at 0 135 (v := ?vb0) rfl rfl (by kernel_rfl) (by kernel_rfl) (by kernel_rfl) (fun _ _ _ h => h) (Or.inl ⟨by rfl, ?yb0⟩) hHeld ?_
  case yb0 => intro w hSw; (try dsimp only at hSw); go_simp <;> with_reducible rfl
  try simp only [Act.put, List.setIfInBounds_toArray, List.set_cons_zero, List.set_cons_succ]
  refine take_at 1 136 (v := ?vb1) rfl rfl (by kernel_rfl) (by kernel_rfl) (by kernel_rfl) (fun _ _ _ h => h) (Or.inl ⟨by rfl, ?yb1⟩) hHeld ?_
  case yb1 => intro w hSw; (try dsimp only at hSw); go_simp <;> with_reducible rfl
  try simp only [Act.put, List.setIfInBounds_toArray, List.set_cons_zero, List.set_cons_succ]
  refine take_at 2 137 (v := ?vb2) rfl rfl (by kernel_rfl) (by kernel_rfl) (by kernel_rfl) (fun _ _ _ h => h) (Or.inl ⟨by rfl, ?yb2⟩) hHeld ?_
  case yb2 => intro w hSw; (try dsimp only at hSw); go_simp <;> with_reducible rfl
  try simp only [Act.put, List.setIfInBounds_toArray, List.set_cons_zero, List.set_cons_succ]
  refine take_at 3 138 (v := ?vb3) rfl rfl (by kernel_rfl) (by kernel_rfl) (by kernel_rfl) (fun _ _ _ h => h) (Or.inl ⟨by rfl, ?yb3⟩) hHeld ?_
  case yb3 => intro w hSw; (try dsimp only at hSw); go_simp <;> with_reducible rfl
  try simp only [Act.put, List.setIfInBounds_toArray, List.set_cons_zero, List.set_cons_succ]
  refine take_at 4 139 (v := ?vb4) rfl rfl (by kernel_rfl) (by kernel_rfl) (by kernel_rfl) (fun _ _ _ h => h) (Or.inl ⟨by rfl, ?yb4⟩) hHeld ?_
  case yb4 => intro w hSw; (try dsimp only at hSw); go_simp <;> with_reducible rfl
  try simp only [Act.put, List.setIfInBounds_toArray, List.set_cons_zero, List.set_cons_succ]
  refine take_at 5 140 (v := ?vb5) rfl rfl (by kernel_rfl) (by kernel_rfl) (by kernel_rfl) (fun _ _ _ h => h) (Or.inl ⟨by rfl, ?yb5⟩) hHeld ?_
  case yb5 => intro w hSw; (try dsimp only at hSw); go_simp <;> with_reducible rfl
  try simp only [Act.put, List.setIfInBounds_toArray, List.set_cons_zero, List.set_cons_succ]
  refine take_at 6 141 (v := ?vb6) rfl rfl (by kernel_rfl) (by kernel_rfl) (by kernel_rfl) (fun _ _ _ h => h) (Or.inl ⟨by rfl, ?yb6⟩) hHeld ?_
  case yb6 => intro w hSw; (try dsimp only at hSw); go_simp <;> with_reducible rfl
  try simp only [Act.put, List.setIfInBounds_toArray, List.set_cons_zero, List.set_cons_succ]
  refine take_at 7 142 (v := ?vb7) rfl rfl (by kernel_rfl) (by kernel_rfl) (by kernel_rfl) (fun _ _ _ h => h) (Or.inl ⟨by rfl, ?yb7⟩) hHeld ?_
  case yb7 => intro w hSw; (try dsimp only at hSw); go_simp <;> with_reducible rfl
  try simp only [Act.put, List.setIfInBounds_toArray, List.set_cons_zero, List.set_cons_succ]
  refine take_at 8 143 (v := ?vb8) rfl rfl (by kernel_rfl) (by kernel_rfl) (by kernel_rfl) (fun _ _ _ h => h) (Or.inl ⟨by rfl, ?yb8⟩) hHeld ?_
  case yb8 => intro w hSw; (try dsimp only at hSw); go_simp <;> with_reducible rfl
  try simp only [Act.put, List.setIfInBounds_toArray, List.set_cons_zero, List.set_cons_succ]
  refine take_at 9 144 (v := ?vb9) rfl rfl (by kernel_rfl) (by kernel_rfl) (by kernel_rfl) (fun _ _ _ h => h) (Or.inl ⟨by rfl, ?yb9⟩) hHeld ?_
  case yb9 => intro w hSw; (try dsimp only at hSw); go_simp <;> with_reducible rfl
  try simp only [Act.put, List.setIfInBounds_toArray, List.set_cons_zero, List.set_cons_succ]
  refine take_at 10 145 (v := ?vb10) rfl rfl (by kernel_rfl) (by kernel_rfl) (by kernel_rfl) (fun _ _ _ h => h) (Or.inl ⟨by rfl, ?yb10⟩) hHeld ?_
  case yb10 => intro w hSw; (try dsimp only at hSw); go_simp <;> with_reducible rfl
  try simp only [Act.put, List.setIfInBounds_toArray, List.set_cons_zero, List.set_cons_succ]
  refine wpAnyH_ready (rs := [11]) (by kernel_rfl) (by simp) ?_
  refine AllReadyH.cons rfl (fun K hK => ?_) AllReadyH.nil
  go_simp
  refine hK.out _ _ ?_ (fun hHeld => ?_)
  · obtain ⟨hcc, _⟩ := bcell (HWB.out)
    exact ⟨(hcc rb 2 lp).trans p2, (hcc (B0 + 1) 0 (lt_of_cell c3)).trans c3, (hcc E 8 (lt_of_cell e8)).trans e8, (hcc E 9 (lt_of_cell e9)).trans e9⟩
  clear hK K
  try simp only [Act.put, List.setIfInBounds_toArray, List.set_cons_zero, List.set_cons_succ]
  refine wpAnyH_ready (rs := [12]) (by kernel_rfl) (by simp) ?_
  refine AllReadyH.cons rfl (fun K hK => ?_) AllReadyH.nil
  refine step_append_lies _ (by rfl) (.tmp 139) (.tmp 146) 106 (by rfl) base 110 i0 _ 3 24 Try.underlying106 hi hz0 hz1 hz2 rfl (by decide) (.slice ap np cp) np ((s9.runB e.who).flatMap borCells) (by rfl) HOWN.out ⟨wc.heap.size, 0, none⟩ 1 1 (borCells ((n : Int), e.lend)) (by rfl) rfl HNEW.out (bor_oneCell _) (by omega) HL1.out HL2.out HL3.out (wc.heap.size + 1) HL4.out ?_
  intro g cap w1 hown1 hgrow hat hglt
  have hkp := fun {b : Nat} (hl : b < wc.heap.size) (hb : L7.own b ≠ some (11, e.who.1, e.who.2, 0)) => grown_kept HM11.out.inv HWB.out hgrow HRA.out.2 hl hb
  have hkb : w1.heap[rb]? = wc.heap[rb]? := hkp lp (by rw [HO.out]; simp)
  have hkc := fun {b : Nat} (o : Nat) {v : Value} (hc : wc.cell? ⟨b, o, none⟩ = some v) (hb : L7.own b = none) => (World.cell?_of_block (a := ⟨b, o, none⟩) (hkp (lt_of_cell hc) (by rw [hb]; simp))).trans hc
  have p2' : w1.cell? ⟨rb, 2, none⟩ = some (.slice ap np cp) := (World.cell?_of_block (a := ⟨rb, 2, none⟩) hkb).trans p2
  have f2 := frozen_of_block (hkb.trans HPB.out)
  change K (Act.put _ (some 147) _) w1
  simp only [Act.put, List.setIfInBounds_toArray, List.set_cons_zero, List.set_cons_succ]
  refine hK.out _ _ ?_ (fun hHeld => ?_)
  · exact ⟨p2', hkc 0 c3 HM11.out.o1, hkc 8 e8 HM11.out.oE, hkc 9 e9 HM11.out.oE⟩
  have HFIN : Hid _ := mid_run HM11.out HRB.out HPB.out ((n : Int), e.lend) HRA.out HWB.out hgrow (by rw [HL4.out]; exact hat) hglt (by rw [HNP.out]; exact hown1)
  rw [HNP.out] at HFIN
  clear hK K hHeld hkp hkb hkc hown1 hgrow hat hglt p2 c3 e8 e9 HWB HOWN HNEW
  refine wpAnyH_done (by kernel_rfl) ?_ _
  simp only [Exit.then, List.length_cons, List.length_nil]
  refine wpAny_ready (rs := [13]) (by kernel_rfl) (by simp) ?_
  refine AllReady.cons rfl (fun K hK => ?_) AllReady.nil
  go_simp
  refine hK _ _ ?_
  clear hK K
  refine wpAny_ready (rs := [14]) (by kernel_rfl) (by simp) ?_
  refine AllReady.cons rfl (fun K hK => ?_) AllReady.nil
  go_simp
  refine hK _ _ ?_
  clear hK K
  refine wpAny_ready (rs := [15]) (by kernel_rfl) (by simp) ?_
  refine AllReady.cons rfl (fun K hK => ?_) AllReady.nil
  go_simp
  refine hK _ _ ?_
  clear hK K
  refine wpAny_done (by kernel_rfl) ?_ _
  refine NoPanic.normal ?_
  go_wp2
  go_end0
  obtain ⟨L8, HM12⟩ := HFIN.out
  refine ⟨rfl, L8, ?_, HM12.ext, HM12.fr, ?_⟩
  · have := HM12.inv
    rw [HS9.out, ← HN.out, ← HCF.out, ← HCHV.out] at this
    have h2 : accSt s e = { s with lc := s.lc + if (s.pagH e.pk).any (hit s.accs e) then 1 else 0, cv := s.cv + if chain s e then 1 else 0, accs := s.accs ++ [e.acc], pagA := updK s.pagA e.pk (s.pagA e.pk ++ [(s.accs.length : Int)]), pagH := updK s.pagH e.pk (s.pagH e.pk ++ [(s.accs.length : Int)]), cohA := updK s.cohA e.ck (s.cohA e.ck ++ [(s.accs.length : Int)]), runB := updK s.runB e.who (s.runB e.who ++ [((s.accs.length : Int), e.lend)]) } := by
      simp only [accSt, HBO.out, conflict]
      rfl
    rw [h2]; exact this
  · rw [HM12.keys]; simp [accKeys, HBO.out]
  -- 12>
end
end Go.Proofs.Qxb6604372a
