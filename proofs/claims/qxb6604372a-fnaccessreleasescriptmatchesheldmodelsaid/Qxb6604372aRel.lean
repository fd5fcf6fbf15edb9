/-
  release: the walk.
-/
import Derived.Test.Qxb6604372aDel2
import Derived.Test.Qxb6604372aRead2
namespace Go.Proofs.Qxb6604372a
open Go.ChangeShapes Go.WideShapes Go.ChangeAt Go.RowKit

section
variable {base : Nat} {L : Lay} {s : St}
theorem row_split {w : World} {g n : Nat} {cur : Array Value} {xs : List Int} (hh : w.heap[g]? = some (.cells cur 3 (0, 0))) (ht : cur.toList.take (n * 1) = ints xs) : w.heap[g]? = some (.cells (ints xs ++ cur.toList.drop n).toArray 3 (0, 0)) := by
  rw [hh, ← ht, Nat.mul_one, List.take_append_drop]
set_option maxRecDepth 100000 in
set_option maxHeartbeats 1000000 in
theorem release_no (i : Nat) (a : Acc) (pb : Nat) (w : World) (h : Inv base L s w) (hi : s.accs[i]? = some a) (hpb : L.pag.lookup (a.site, a.page) = some pb) (hl : (s.pagH (a.site, a.page)).length ≤ 1024) (hno : (i : Int) ∉ s.pagH (a.site, a.page)) :
    Calls Try.prog 38 #[pv L.A, .int .i64 i] w fun e w' => e = .returned (.tuple #[]) ∧ Below w.heap.size w w' := by
  obtain ⟨g, cap, cA, hc⟩ := h.accAt hi
  have hil : (i : Int) < (s.accs.length : Int) := by have := (List.getElem?_eq_some_iff.1 hi).1; omega
  have a2 : w.cell? ⟨g, i * 6 + 2, none⟩ = some (.int .i64 a.site) := hc 2 _ rfl
  have a3 : w.cell? ⟨g, i * 6 + 3, none⟩ = some (.int .i64 a.page) := hc 3 _ rfl
  have hga := lt_of_cell a2
  have cP := h.cellP
  have hA := lt_of_cell cP
  have hltP := h.P.lt
  have hlk : ∀ nq, (Instr.lookup 61 (.map (some L.P)) (.agg #[.int .i64 a.site, .int .i64 a.page]) false).run Try.prog ((w.alloc (.cells #[.int .i64 (i : Int)] 3)).drewN nq) = .ok (pv pb) ((w.alloc (.cells #[.int .i64 (i : Int)] 3)).drewN nq) := by
    intro nq
    rw [lookup61 _ L.P L.pag (h.P.of_block (by show (w.alloc _).heap[L.P]? = _; rw [Below.heap_alloc _ _ _ hltP])), hpb]; rfl
  obtain ⟨_, sa, sh, hb, _, hrh⟩ := h.pag _ _ hpb
  obtain ⟨ha, hcp, rfl, hsl⟩ := hrh.sl
  have p1 : w.cell? ⟨pb, 1, none⟩ = some (.slice ha (s.pagH (a.site, a.page)).length hcp) := cell_of_block hb rfl
  have f1 := frozen_of_block hb
  have hpl := lt_of_cell p1
  have HBL : Hid (w.heap[pb]? = some (.cells #[sa, .slice ha (s.pagH (a.site, a.page)).length hcp] 99)) := hb
  have hB0 : ∀ nq, Below w.heap.size w ((w.alloc (.cells #[.int .i64 (i : Int)] 3)).drewN nq) := fun nq => below_drewN ((Below.refl _ _).alloc (Nat.le_refl _) _) nq
  have HD : Hid (∀ nq, Calls Try.prog 47 #[.slice ha (s.pagH (a.site, a.page)).length hcp, .func (.func 48) #[] #[pv w.heap.size]] ((w.alloc (.cells #[.int .i64 (i : Int)] 3)).drewN nq) fun e w' => e = .returned (.slice ha (s.pagH (a.site, a.page)).length hcp) ∧ Below w.heap.size w w') := by
    intro nq
    refine (delete_no ha hcp _ i w.heap.size _ (hsl.kept (hB0 nq)) hl ?_ hno).mono ?_
    · exact cell_of_block (show (w.alloc _).heap[w.heap.size]? = _ from heap_at _ _ rfl) rfl
    · rintro e w' ⟨rfl, hbb⟩
      exact ⟨rfl, (hB0 nq).trans (hbb.mono (hB0 nq).size)⟩
  clear h hc hi hpb hl hno hb hsl hrh hB0
  generalize L.A = A at *
  generalize L.P = P at *
  generalize s.accs.length = n at *
  generalize (s.pagH (a.site, a.page)).length = q at *
  obtain ⟨atxn, an, asite, apage, aupd⟩ := a
  simp only at *
  go_enter Try.func38, Try.ntmps38
  go_wp2
  go_quiet (fail)
  go_wp2_with fail
  refine Calls.mono (HD.out nq) ?_
  rintro r w2 ⟨rfl, hb2⟩
  have HB2 : Hid (Below w.heap.size w w2) := hb2
  have p2 : w2.cell? ⟨pb, 1, none⟩ = some (.slice ha q hcp) := by rw [hb2.cell hpl]; exact p1
  have f2 : w2.frozen? ⟨pb, 1, none⟩ = false := by rw [hb2.frozen hpl]; exact f1 1
  have hpl2 := lt_of_cell p2
  clear hb2
  go_wp2
  go_end0
  refine ⟨rfl, HB2.out.os, HB2.out.tape, HB2.out.output, by simpa using HB2.out.size, fun k hk => ?_⟩
  by_cases e : k = pb
  · subst e
    rw [heap_setCell_same ((HB2.out.block _ hk).trans HBL.out), HBL.out]
    rfl
  · rw [Below.heap_setCell _ _ _ _ e]; exact HB2.out.block k hk
set_option maxRecDepth 100000 in
set_option maxHeartbeats 1000000 in
theorem release_found (i : Nat) (a : Acc) (pb : Nat) (us bs : List Int) (w : World) (h : Inv base L s w) (hi : s.accs[i]? = some a) (hpb : L.pag.lookup (a.site, a.page) = some pb) (hx : s.pagH (a.site, a.page) = us ++ (i : Int) :: bs) (hu : (i : Int) ∉ us) (hbs : (i : Int) ∉ bs) (hl : us.length + bs.length + 1 ≤ 1024) :
    Calls Try.prog 38 #[pv L.A, .int .i64 i] w fun e w' => e = .returned (.tuple #[]) ∧ ∃ L', Inv base L' { s with pagH := updK s.pagH (a.site, a.page) (us ++ bs) } w' ∧ Ext w.heap.size L L' ∧ Fr L.own w w' ∧ keysL L' = keysL L := by
  obtain ⟨g, cap, cA, hc⟩ := h.accAt hi
  have hil : (i : Int) < (s.accs.length : Int) := by have := (List.getElem?_eq_some_iff.1 hi).1; omega
  have a2 : w.cell? ⟨g, i * 6 + 2, none⟩ = some (.int .i64 a.site) := hc 2 _ rfl
  have a3 : w.cell? ⟨g, i * 6 + 3, none⟩ = some (.int .i64 a.page) := hc 3 _ rfl
  have hga := lt_of_cell a2
  have cP := h.cellP
  have hA := lt_of_cell cP
  have hltP := h.P.lt
  have hlk : ∀ nq, (Instr.lookup 61 (.map (some L.P)) (.agg #[.int .i64 a.site, .int .i64 a.page]) false).run Try.prog ((w.alloc (.cells #[.int .i64 (i : Int)] 3)).drewN nq) = .ok (pv pb) ((w.alloc (.cells #[.int .i64 (i : Int)] 3)).drewN nq) := by
    intro nq
    rw [lookup61 _ L.P L.pag (h.P.of_block (by show (w.alloc _).heap[L.P]? = _; rw [Below.heap_alloc _ _ _ hltP])), hpb]; rfl
  obtain ⟨hown, sa, sh, hb, _, hrh⟩ := h.pag _ _ hpb
  rw [hx] at hrh
  have hxl : (us ++ (i : Int) :: bs).length = us.length + bs.length + 1 := by simp; omega
  obtain ⟨hg, hcp, rest, rfl, hgb, hgr, hgc, hgm, hgs, hgo⟩ : ∃ (hg hcp : Nat) (rest : List Value), sh = .slice (some ⟨hg, 0, none⟩) (us.length + bs.length + 1) hcp ∧ base ≤ hg ∧ w.heap[hg]? = some (.cells (ints (us ++ (i : Int) :: bs) ++ rest).toArray 3 (0, 0)) ∧ us.length + bs.length + 1 ≤ hcp ∧ hcp ≤ maxLen ∧ us.length + bs.length + 1 + rest.length = hcp ∧ L.own hg = some (9, a.site, a.page, 0) := by
    obtain ⟨h1, h2⟩ := hrh
    rcases h1.2 with ⟨_, hn⟩ | ⟨g, cp, cur, hv, hbase, hh, hle, hmx, hs, ht⟩
    · rw [hxl] at hn; omega
    · rw [hxl] at hv hle ht
      refine ⟨g, cp, cur.toList.drop (us.length + bs.length + 1), hv, hbase, row_split hh ht, hle, hmx, ?_, h2 g (by rw [hv]; rfl)⟩
      simp; omega
  have p1 : w.cell? ⟨pb, 1, none⟩ = some (.slice (some ⟨hg, 0, none⟩) (us.length + bs.length + 1) hcp) := cell_of_block hb rfl
  have f1 := frozen_of_block hb
  have hpl := lt_of_cell p1
  have hgl := (h.lt _ _ hgo).2
  have hpg : pb ≠ hg := fun e => by rw [e, hgo] at hown; simp at hown
  have HBL : Hid (w.heap[pb]? = some (.cells #[sa, .slice (some ⟨hg, 0, none⟩) (us.length + bs.length + 1) hcp] 99)) := hb
  have hB0 : ∀ nq, Below w.heap.size w ((w.alloc (.cells #[.int .i64 (i : Int)] 3)).drewN nq) := fun nq => below_drewN ((Below.refl _ _).alloc (Nat.le_refl _) _) nq
  have HB0 : Hid (∀ nq, Below w.heap.size w ((w.alloc (.cells #[.int .i64 (i : Int)] 3)).drewN nq)) := hB0
  have HD : Hid (∀ nq, Calls Try.prog 47 #[.slice (some ⟨hg, 0, none⟩) (us.length + bs.length + 1) hcp, .func (.func 48) #[] #[pv w.heap.size]] ((w.alloc (.cells #[.int .i64 (i : Int)] 3)).drewN nq) fun e w' => e = .returned (.slice (some ⟨hg, 0, none⟩) (us.length + bs.length) hcp) ∧ ((w.alloc (.cells #[.int .i64 (i : Int)] 3)).drewN nq).grownBy w' (some hg) ∧ w'.heap[hg]? = some (.cells (ints (us ++ bs) ++ (.int .i64 0 :: rest)).toArray 3 (0, 0))) := by
    intro nq
    refine delete_found hg hcp w.heap.size us bs i rest _ ?_ hgc ?_ (by omega) hu hbs hl
    · rw [(hB0 nq).block _ hgl]; exact hgr
    · exact cell_of_block (show (w.alloc _).heap[w.heap.size]? = _ from heap_at _ _ rfl) rfl
  have HFIN : Hid (∀ nq (w2 : World), ((w.alloc (.cells #[.int .i64 (i : Int)] 3)).drewN nq).grownBy w2 (some hg) → w2.heap[hg]? = some (.cells (ints (us ++ bs) ++ (.int .i64 0 :: rest)).toArray 3 (0, 0)) →
      ∃ L', Inv base L' { s with pagH := updK s.pagH (a.site, a.page) (us ++ bs) } (w2.setCell ⟨pb, 1, none⟩ (.slice (some ⟨hg, 0, none⟩) (us.length + bs.length) hcp)) ∧ Ext w.heap.size L L' ∧ Fr L.own w (w2.setCell ⟨pb, 1, none⟩ (.slice (some ⟨hg, 0, none⟩) (us.length + bs.length) hcp)) ∧ keysL L' = keysL L) := by
    intro nq w2 hgrow hrow
    have hv : ∀ b, (Value.slice (some ⟨hg, 0, none⟩) (us.length + bs.length + 1) hcp).ownBlock = some b → L.own b = some (9, a.site, a.page, 0) := by
      intro b e
      cases e
      exact hgo
    have hglt : hg < w2.heap.size := (Array.getElem?_eq_some_iff.1 hrow).1
    have c : Chg base L w (w2.setCell ⟨pb, 1, none⟩ (.slice (some ⟨hg, 0, none⟩) (us.length + bs.length) hcp)) hg (9, a.site, a.page, 0) (7, a.site, a.page, 0) := Chg.of_append (v := .slice (some ⟨hg, 0, none⟩) (us.length + bs.length + 1) hcp) h (hB0 nq) hgrow hv (.inl rfl) hglt hown
    have hpb2 : w2.heap[pb]? = some (.cells #[sa, .slice (some ⟨hg, 0, none⟩) (us.length + bs.length + 1) hcp] 99) := by
      rw [hgrow.block pb (Nat.lt_of_lt_of_le hpl (hB0 nq).size) (fun e => hpg (by cases e; rfl)), (hB0 nq).block pb hpl]; exact hb
    refine ⟨_, h.setPagH (a.site, a.page) c hpb (us ++ bs) (sa := sa) ⟨_, hb⟩ (by rw [heap_setCell_same hpb2]; rfl) ?_ rfl, c.ext, fr_append (v := .slice (some ⟨hg, 0, none⟩) (us.length + bs.length + 1) hcp) (hB0 nq) hgrow hv hown, rfl⟩
    refine ⟨by simp [ints], .inr ⟨hg, hcp, (ints (us ++ bs) ++ (.int .i64 0 :: rest)).toArray, by simp, hgb, ?_, by simp; omega, hgm, by simp [ints]; omega, ?_⟩⟩
    · rw [Below.heap_setCell _ _ _ _ (fun e => hpg e.symm)]; exact hrow
    · rw [Nat.mul_one]
      exact List.take_left' (by simp [ints])
  clear h hc hi hpb hl hb hrh hB0 hx hu hbs hgr hgb hgm hgs hgo hown
  generalize L.A = A at *
  generalize L.P = P at *
  generalize s.accs.length = n at *
  obtain ⟨atxn, an, asite, apage, aupd⟩ := a
  simp only at *
  go_enter Try.func38, Try.ntmps38
  go_wp2
  go_quiet (fail)
  go_wp2_with fail
  refine Calls.mono (HD.out nq) ?_
  rintro r w2 ⟨rfl, hgrow, hrow⟩
  have hpb2 : w2.heap[pb]? = some (.cells #[sa, .slice (some ⟨hg, 0, none⟩) (us.length + bs.length + 1) hcp] 99) := by
    rw [hgrow.block pb (Nat.lt_of_lt_of_le hpl (HB0.out nq).size) (fun e => hpg (by cases e; rfl)), (HB0.out nq).block pb hpl]; exact HBL.out
  have HF := HFIN.out nq w2 hgrow hrow
  have HF : Hid (∃ L', Inv base L' { s with pagH := updK s.pagH (asite, apage) (us ++ bs) } (w2.setCell ⟨pb, 1, none⟩ (.slice (some ⟨hg, 0, none⟩) (us.length + bs.length) hcp)) ∧ Ext w.heap.size L L' ∧ Fr L.own w (w2.setCell ⟨pb, 1, none⟩ (.slice (some ⟨hg, 0, none⟩) (us.length + bs.length) hcp)) ∧ keysL L' = keysL L) := HF
  have p2 := cell_of_block hpb2 (o := 1) rfl
  have f2 := frozen_of_block hpb2
  have hpl2 := lt_of_cell p2
  clear hgrow hrow hpb2 HFIN HD
  go_wp2
  go_end0
  exact ⟨rfl, HF.out⟩
end
end Go.Proofs.Qxb6604372a
