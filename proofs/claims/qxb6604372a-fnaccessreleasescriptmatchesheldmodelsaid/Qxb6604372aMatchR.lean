/-
  runMatches.
-/
import Derived.Test.Qxb6604372aMatch
namespace Go.Proofs.Qxb6604372a
open Go.ChangeShapes Go.WideShapes Go.ChangeAt Go.RowKit

section
variable {base : Nat} {L : Lay} {evs : List Ev} {rel : Nat → Bool} {lc cv : Int}
set_option maxRecDepth 100000 in
set_option maxHeartbeats 2000000 in
theorem runMatches_any (kn : Nat) (e0 : Ev) (he0 : evs[kn]? = some e0) (eg ec pb A : Nat) (w : World) (h : Inv base L (stOf evs rel lc cv) w) (hA : L.A = A) (hev : EvRow w eg evs)
    (hpb : L.run.lookup e0.who = some pb) (hl : evs.length ≤ 1024) :
    Calls Try.prog 35 #[pv A, .slice (some ⟨eg, 0, none⟩) evs.length ec, .int .i64 kn] w fun r w' => r = .returned (.bool true) ∧ Below w.heap.size w w' := by
  have hb0 : Below w.heap.size w (w.alloc (.cells (ev8 e0) 46)) := (Below.refl _ _).alloc (Nat.le_refl _) _
  have hrun := (h.below hb0).run _ _ hpb
  obtain ⟨aa, ac, hcl, hsa⟩ := hrun.sl
  obtain ⟨_, sva, hb, _⟩ := hrun
  have h43 : Calls Try.prog 43 #[pv A, .int .i64 e0.txn, .int .i64 e0.n] (w.alloc (.cells (ev8 e0) 46)) fun e w' => e = .returned (pv pb) ∧ w' = (w.alloc (.cells (ev8 e0) 46)) := by
    subst hA; exact (runOf_any e0.txn e0.n _ (h.below hb0)).mono fun e w' ⟨he, hw⟩ => ⟨by rw [he]; unfold Ev.who at hpb; rw [hpb]; rfl, hw⟩
  have hlenA := bors_length e0.who evs
  obtain ⟨xs, hxs⟩ : ∃ xs, bors e0.who evs = xs := ⟨_, rfl⟩
  have hstA : (stOf evs rel lc cv).runB e0.who = xs := hxs
  rw [hstA] at hcl hsa
  rw [hxs] at hlenA
  have hkl := (List.getElem?_eq_some_iff.1 he0).1
  obtain ⟨b0, b1, b2, b3, b4, b5, b6, b7⟩ := EvRow.at hev he0
  have hlg : eg < w.heap.size := lt_of_cell b0
  have HB : Hid _ := hb
  have HCL : Hid _ := hcl
  have HSA : Hid (BorSl (w.alloc (.cells (ev8 e0) 46)) aa xs) := hsa
  have HX : Hid _ := hxs
  have H43 : Hid _ := h43
  have HEV : Hid (EvRow (w.alloc (.cells (ev8 e0) 46)) eg evs) := EvRow.kept hev hb0
  have HB0 : Hid (Below w.heap.size w (w.alloc (.cells (ev8 e0) 46))) := hb0
  clear hb hcl hsa hxs h43 hev h hstA hA hpb hb0 he0
  obtain ⟨m, hm⟩ : ∃ m, evs.length = m := ⟨_, rfl⟩
  obtain ⟨q, hq⟩ : ∃ q, xs.length = q := ⟨_, rfl⟩
  rw [hm] at hl hlenA hkl ⊢
  rw [hq] at hlenA
  have HM : Hid _ := hm
  have HQ : Hid _ := hq
  clear hm hq
  go_enter Try.func35, Try.ntmps35
  go_wp2_with fail
  refine Calls.mono H43.out ?_
  rintro r w' ⟨rfl, rfl⟩
  clear b0 b1 b2 b3 b4 b5 b6 b7
  go_wp2_with fail
  refine (runFields_any pb sva _ HB.out).mono ?_
  rintro r w1 ⟨rfl, hb1⟩
  have hcl : w1.cell? ⟨pb, 2, none⟩ = some (.slice aa q ac) := by rw [hb1.cell (lt_of_cell HCL.out), HCL.out, HQ.out]
  have hblk : w1.heap[w.heap.size]? = some (.cells (ev8 e0) 46) := by rw [hb1.block _ (by simp)]; exact heap_at _ _ rfl
  have HCL : Hid (w1.cell? ⟨pb, 2, none⟩ = some (.slice aa q ac)) := hcl
  have HBLK : Hid (w1.heap[w.heap.size]? = some (.cells (ev8 e0) 46)) := hblk
  have HSA : Hid (BorSl w1 aa xs) := BorSl.kept HSA.out hb1
  have HEV : Hid (EvRow w1 eg evs) := EvRow.kept HEV.out hb1
  have HB0 : Hid (Below w.heap.size w w1) := HB0.out.trans (hb1.mono (by simp))
  have hw1 : w.heap.size < w1.heap.size := by have := hb1.size; simp at this; omega
  clear hcl hblk hb1 HB
  go_wp2_with fail
  refine (borCount_any pb aa q ac _ HCL.out).mono ?_
  rintro r w' ⟨rfl, rfl⟩
  go_wp2
  go_loopw [14, 15] (fun p j W => ∃ jn : Nat, jn ≤ m ∧ j = .int .i64 jn ∧ p = .int .i64 (bors e0.who (evs.take jn)).length ∧ Below w'.heap.size w' W) (fun _ j _ => m - (intOf j).toNat)
  case atStart => exact ⟨0, Nat.zero_le _, rfl, rfl, Below.refl _ _⟩
  case round =>
    obtain ⟨jn, hjn, rfl, rfl, hbw⟩ := hrel
    obtain ⟨pn, hpn⟩ : ∃ pn, (bors e0.who (evs.take jn)).length = pn := ⟨_, rfl⟩
    rw [hpn]
    have hpl : pn ≤ jn := by rw [← hpn]; exact Nat.le_trans (bors_length _ _) (by simp; omega)
    by_cases hlt : jn < m
    · obtain ⟨e, he⟩ : ∃ e, evs[jn]? = some e := ⟨evs[jn]'(by rw [HM.out]; exact hlt), by simp⟩
      obtain ⟨c0, c1, c2, c3, c4, c5, c6, c7⟩ := EvRow.at (EvRow.kept HEV.out hbw) he
      have hlg : eg < wr.heap.size := lt_of_cell c0
      have hblk : wr.heap[w.heap.size]? = some (.cells (ev8 e0) 46) := by rw [hbw.block _ hw1]; exact HBLK.out
      have d0 : wr.cell? ⟨w.heap.size, 0, none⟩ = some (.int .i64 e0.txn) := cell_of_block hblk rfl
      have d1 : wr.cell? ⟨w.heap.size, 1, none⟩ = some (.int .i64 e0.n) := cell_of_block hblk rfl
      have hlw : w.heap.size < wr.heap.size := lt_of_cell d0
      have htk := bors_take (k := e0.who) he
      have hfin : ∀ o, Below w'.heap.size w' (wr.alloc o) := fun o => hbw.alloc hbw.size o
      have HF : Hid (∀ o, Below w'.heap.size w' (wr.alloc o)) := hfin
      have hno : ¬ (e.bor = true ∧ e.txn = e0.txn ∧ e.n = e0.n) → (bors e0.who (evs.take (jn + 1))).length = pn := fun hh => by
        have : (e.bor && e.who == e0.who) = false := by
          cases hb : e.bor with
          | false => rfl
          | true =>
            simp only [Bool.true_and]
            rw [beq_eq_false_iff_ne]
            intro e'
            simp [Ev.who] at e'
            exact hh ⟨hb, e'⟩
        rw [htk, this]
        simpa using hpn
      have HNO : Hid (¬ (e.bor = true ∧ e.txn = e0.txn ∧ e.n = e0.n) → (bors e0.who (evs.take (jn + 1))).length = pn) := hno
      have HTK : Hid _ := htk
      have HPN : Hid _ := hpn
      have HE : Hid _ := he
      clear htk hpn hfin hblk hno he
      by_cases e0' : e.bor = true
      case neg =>
        have hbf : e.bor = false := by simpa using e0'
        go_wp2
        have := HNO.out (fun h => e0' h.1)
        exact ⟨⟨jn + 1, hlt, by go_num, by rw [this], HF.out _⟩, by simp [intOf]; omega⟩
      by_cases e1 : e.txn = e0.txn
      case neg =>
        go_wp2
        have := HNO.out (fun h => e1 h.2.1)
        exact ⟨⟨jn + 1, hlt, by go_num, by rw [this], HF.out _⟩, by simp [intOf]; omega⟩
      by_cases e2 : e.n = e0.n
      case neg =>
        go_wp2
        have := HNO.out (fun h => e2 h.2.2)
        exact ⟨⟨jn + 1, hlt, by go_num, by rw [this], HF.out _⟩, by simp [intOf]; omega⟩
      have hyes : (e.bor && e.who == e0.who) = true := by simp [Ev.who, e0', e1, e2]
      obtain ⟨hat, hlt2⟩ := bors_at HE.out hyes
      rw [HX.out, HPN.out] at hat hlt2
      rw [HQ.out] at hlt2
      have hlen1 : (bors e0.who (evs.take (jn + 1))).length = pn + 1 := by rw [HTK.out, hyes]; simp [HPN.out]
      have HL1 : Hid _ := hlen1
      have HAT : Hid _ := hat
      clear hat hlen1 hyes
      go_wp2_with fail
      refine (borAt_any pb aa ac xs pn _ _ (by rw [HQ.out, (HF.out _).cell (lt_of_cell HCL.out)]; exact HCL.out) (BorSl.kept HSA.out (HF.out _)) HAT.out).mono ?_
      rintro r w2 ⟨rfl, hb2⟩
      have hw2 : wr.heap.size < w2.heap.size := by have := hb2.size; simp at this; omega
      have hblk2 := hb2.block wr.heap.size (by simp)
      rw [heap_at _ _ rfl] at hblk2
      have g6 : w2.cell? ⟨wr.heap.size, 6, none⟩ = some (.int .i64 e.lt) := cell_of_block hblk2 rfl
      have g7 : w2.cell? ⟨wr.heap.size, 7, none⟩ = some (.int .i64 e.ln) := cell_of_block hblk2 rfl
      have HF2 : Hid (Below w'.heap.size w' w2) := (HF.out _).trans (hb2.mono (by have := hbw.size; simp; omega))
      clear hblk2 hb2
      simp only [Ev.lend]
      go_wp2
      exact ⟨⟨jn + 1, hlt, by go_num, by rw [HL1.out]; go_num, HF2.out⟩, by simp [intOf]; omega⟩
    · have hjm : jn = m := by omega
      subst hjm
      have hpq : pn = q := by rw [← hpn, List.take_of_length_le (by rw [HM.out]; omega), HX.out, HQ.out]
      subst hpq
      clear hpn
      go_wp2
      go_ret
      exact ⟨rfl, HB0.out.trans (hbw.mono (by omega))⟩
end
end Go.Proofs.Qxb6604372a
