/-
  pageMatches.
-/
import Derived.Test.Qxb6604372aMatch
namespace Go.Proofs.Qxb6604372a
open Go.ChangeShapes Go.WideShapes Go.ChangeAt Go.RowKit

def pkAt (k : K2) : Ev → Nat → Bool := fun e _ => e.pk == k
def phAt (k : K2) (rel : Nat → Bool) : Ev → Nat → Bool := fun e i => e.pk == k && !rel i
section
variable {base : Nat} {L : Lay} {evs : List Ev} {rel : Nat → Bool} {lc cv : Int}
set_option maxRecDepth 100000 in
set_option maxHeartbeats 2000000 in
theorem pageMatches_any (kn : Nat) (e0 : Ev) (he0 : evs[kn]? = some e0) (rps : List Int) (eg ec rg rc pb A : Nat) (w : World) (h : Inv base L (stOf evs rel lc cv) w) (hA : L.A = A) (hev : EvRow w eg evs) (hrp : IntRow w rg rps) (hrl : rps.length = evs.length)
    (hre : ∀ (j : Nat) x, rps[j]? = some x → (x = -1 ↔ rel j = false)) (hpb : L.pag.lookup e0.pk = some pb) (hl : evs.length ≤ 1024) :
    Calls Try.prog 33 #[pv A, .slice (some ⟨eg, 0, none⟩) evs.length ec, .slice (some ⟨rg, 0, none⟩) evs.length rc, .int .i64 kn] w fun r w' => r = .returned (.bool true) ∧ Below w.heap.size w w' := by
  have hb0 : Below w.heap.size w (w.alloc (.cells (ev8 e0) 46)) := (Below.refl _ _).alloc (Nat.le_refl _) _
  obtain ⟨_, sva, svh, hb, hra, hrh⟩ := (h.below hb0).pag _ _ hpb
  obtain ⟨aa, ac, rfl, hsa⟩ := hra.sl
  obtain ⟨ha, hc, rfl, hsh⟩ := hrh.sl
  have h40 : Calls Try.prog 40 #[pv A, .int .i64 e0.site, .int .i64 e0.page] (w.alloc (.cells (ev8 e0) 46)) fun e w' => e = .returned (pv pb) ∧ w' = (w.alloc (.cells (ev8 e0) 46)) := by
    subst hA; exact (pageOf_any e0.site e0.page _ (h.below hb0)).mono fun e w' ⟨he, hw⟩ => ⟨by rw [he]; unfold Ev.pk at hpb; rw [hpb]; rfl, hw⟩
  have hlenA := idx_length (pkAt e0.pk) evs
  have hlenH := idx_length (phAt e0.pk rel) evs
  obtain ⟨xs, hxs⟩ : ∃ xs, idx (pkAt e0.pk) evs = xs := ⟨_, rfl⟩
  obtain ⟨ys, hys⟩ : ∃ ys, idx (phAt e0.pk rel) evs = ys := ⟨_, rfl⟩
  have hstA : (stOf evs rel lc cv).pagA e0.pk = xs := hxs
  have hstH : (stOf evs rel lc cv).pagH e0.pk = ys := hys
  rw [hstA] at hb hsa
  rw [hstH] at hb hsh
  rw [hxs] at hlenA
  rw [hys] at hlenH
  have hkl := (List.getElem?_eq_some_iff.1 he0).1
  obtain ⟨b0, b1, b2, b3, b4, b5, b6, b7⟩ := EvRow.at hev he0
  have hlg : eg < w.heap.size := lt_of_cell b0
  have HB : Hid _ := hb
  have HSA : Hid (IntSl (w.alloc (.cells (ev8 e0) 46)) aa xs) := hsa
  have HSH : Hid (IntSl (w.alloc (.cells (ev8 e0) 46)) ha ys) := hsh
  have HX : Hid _ := hxs
  have HY : Hid _ := hys
  have H40 : Hid _ := h40
  have HEV : Hid (EvRow (w.alloc (.cells (ev8 e0) 46)) eg evs) := EvRow.kept hev hb0
  have HRP : Hid (IntRow (w.alloc (.cells (ev8 e0) 46)) rg rps) := IntRow.kept hrp hb0
  have HRE : Hid (∀ (j : Nat) x, rps[j]? = some x → (x = -1 ↔ rel j = false)) := hre
  have HB0 : Hid (Below w.heap.size w (w.alloc (.cells (ev8 e0) 46))) := hb0
  clear hb hsa hsh hxs hys h40 hev h hra hrh hstA hstH hA hpb hrp hre hb0 he0
  obtain ⟨m, hm⟩ : ∃ m, evs.length = m := ⟨_, rfl⟩
  obtain ⟨q, hq⟩ : ∃ q, xs.length = q := ⟨_, rfl⟩
  obtain ⟨q', hq'⟩ : ∃ q, ys.length = q := ⟨_, rfl⟩
  rw [hm] at hl hlenA hlenH hkl hrl ⊢
  rw [hq] at HB hlenA
  rw [hq'] at HB hlenH
  have HM : Hid _ := hm
  have HQ : Hid _ := hq
  have HQ' : Hid _ := hq'
  have HRL : Hid _ := hrl
  clear hm hq hq' hrl
  go_enter Try.func33, Try.ntmps33
  go_wp2_with fail
  refine Calls.mono H40.out ?_
  rintro r w' ⟨rfl, rfl⟩
  clear b0 b1 b2 b3 b4 b5 b6 b7
  go_wp2_with fail
  refine (pageAccesses_any pb aa q ac _ _ HB.out).mono ?_
  rintro r w' ⟨rfl, rfl⟩
  go_wp2_with fail
  refine (pageHeld_any pb ha q' hc _ _ HB.out).mono ?_
  rintro r w' ⟨rfl, rfl⟩
  go_wp2
  go_loopw [13, 14, 15] (fun p u j W => ∃ jn : Nat, jn ≤ m ∧ j = .int .i64 jn ∧ p = .int .i64 (idx (pkAt e0.pk) (evs.take jn)).length ∧ u = .int .i64 (idx (phAt e0.pk rel) (evs.take jn)).length ∧ Below (w.alloc (.cells (ev8 e0) 46)).heap.size (w.alloc (.cells (ev8 e0) 46)) W) (fun _ _ j _ => m - (intOf j).toNat)
  case atStart => exact ⟨0, Nat.zero_le _, rfl, rfl, rfl, Below.refl _ _⟩
  case round =>
    obtain ⟨jn, hjn, rfl, rfl, rfl, hbw⟩ := hrel
    obtain ⟨pn, hpn⟩ : ∃ pn, (idx (pkAt e0.pk) (evs.take jn)).length = pn := ⟨_, rfl⟩
    obtain ⟨un, hun⟩ : ∃ un, (idx (phAt e0.pk rel) (evs.take jn)).length = un := ⟨_, rfl⟩
    rw [hpn, hun]
    have hpl : pn ≤ jn := by rw [← hpn]; exact Nat.le_trans (idx_length _ _) (by simp; omega)
    have hul : un ≤ jn := by rw [← hun]; exact Nat.le_trans (idx_length _ _) (by simp; omega)
    by_cases hlt : jn < m
    · obtain ⟨e, he⟩ : ∃ e, evs[jn]? = some e := ⟨evs[jn]'(by rw [HM.out]; exact hlt), by simp⟩
      obtain ⟨x, hx⟩ : ∃ x, rps[jn]? = some x := ⟨rps[jn]'(by rw [HRL.out]; exact hlt), by simp⟩
      obtain ⟨c0, c1, c2, c3, c4, c5, c6, c7⟩ := EvRow.at (EvRow.kept HEV.out hbw) he
      have hlg : eg < wr.heap.size := lt_of_cell c0
      have cx := IntRow.kept HRP.out hbw jn x hx
      have hlr : rg < wr.heap.size := lt_of_cell cx
      have hblk : wr.heap[w.heap.size]? = some (.cells (ev8 e0) 46) := by rw [hbw.block _ (by simp)]; exact heap_at _ _ rfl
      have d2 : wr.cell? ⟨w.heap.size, 2, none⟩ = some (.int .i64 e0.site) := cell_of_block hblk rfl
      have d3 : wr.cell? ⟨w.heap.size, 3, none⟩ = some (.int .i64 e0.page) := cell_of_block hblk rfl
      have hlw : w.heap.size < wr.heap.size := lt_of_cell d2
      have htk := idx_take (p := pkAt e0.pk) he
      have htk' := idx_take (p := phAt e0.pk rel) he
      have hfin : ∀ o, Below (w.alloc (.cells (ev8 e0) 46)).heap.size (w.alloc (.cells (ev8 e0) 46)) (wr.alloc o) := fun o => hbw.alloc hbw.size o
      have HF : Hid (∀ o, Below (w.alloc (.cells (ev8 e0) 46)).heap.size (w.alloc (.cells (ev8 e0) 46)) (wr.alloc o)) := hfin
      have hxr := HRE.out jn x hx
      have hno : ¬ (e.site = e0.site ∧ e.page = e0.page) → (idx (pkAt e0.pk) (evs.take (jn + 1))).length = pn ∧ (idx (phAt e0.pk rel) (evs.take (jn + 1))).length = un := fun hh => by
        have : (e.pk == e0.pk) = false := by
          rw [beq_eq_false_iff_ne]
          intro e'
          simp [Ev.pk] at e'
          exact hh e'
        rw [htk, htk']
        simp [pkAt, phAt, this] at hpn hun ⊢
        exact ⟨hpn, hun⟩
      have HNO : Hid (¬ (e.site = e0.site ∧ e.page = e0.page) → (idx (pkAt e0.pk) (evs.take (jn + 1))).length = pn ∧ (idx (phAt e0.pk rel) (evs.take (jn + 1))).length = un) := hno
      have HTK : Hid _ := htk
      have HTK' : Hid _ := htk'
      have HPN : Hid _ := hpn
      have HUN : Hid _ := hun
      have HXR : Hid _ := hxr
      have HE : Hid _ := he
      clear htk htk' hpn hun hfin hblk hno hxr hx he
      by_cases e1 : e.site = e0.site
      case neg =>
        go_wp2
        have := HNO.out (fun h => e1 h.1)
        exact ⟨⟨jn + 1, hlt, by go_num, by rw [this.1], by rw [this.2], HF.out _⟩, by simp [intOf]; omega⟩
      by_cases e2 : e.page = e0.page
      case neg =>
        go_wp2
        have := HNO.out (fun h => e2 h.2)
        exact ⟨⟨jn + 1, hlt, by go_num, by rw [this.1], by rw [this.2], HF.out _⟩, by simp [intOf]; omega⟩
      have hpk : (e.pk == e0.pk) = true := by simp [Ev.pk, e1, e2]
      have hyes : pkAt e0.pk e jn = true := hpk
      obtain ⟨hat, hlt2⟩ := idx_at HE.out hyes
      rw [HX.out, HPN.out] at hat hlt2
      rw [HQ.out] at hlt2
      obtain ⟨g, hg, hcell⟩ := IntSl.kept HSA.out hbw pn _ hat
      subst hg
      have hlg2 : g < wr.heap.size := lt_of_cell hcell
      have hlen1 : (idx (pkAt e0.pk) (evs.take (jn + 1))).length = pn + 1 := by rw [HTK.out, hyes]; simp [HPN.out]
      have HL1 : Hid _ := hlen1
      clear hat hlen1
      by_cases hr : rel jn = false
      · have hx1 : x = -1 := HXR.out.2 hr
        subst hx1
        have hyes' : phAt e0.pk rel e jn = true := by simp [phAt, hpk, hr]
        obtain ⟨hat, hlt3⟩ := idx_at HE.out hyes'
        rw [HY.out, HUN.out] at hat hlt3
        rw [HQ'.out] at hlt3
        obtain ⟨g', hg', hcell'⟩ := IntSl.kept HSH.out hbw un _ hat
        subst hg'
        have hlg3 : g' < wr.heap.size := lt_of_cell hcell'
        have hlen2 : (idx (phAt e0.pk rel) (evs.take (jn + 1))).length = un + 1 := by rw [HTK'.out, hyes']; simp [HUN.out]
        have HL2 : Hid _ := hlen2
        clear hat hlen2 hyes' hyes hpk hr
        go_wp2
        exact ⟨⟨jn + 1, hlt, by go_num, by rw [HL1.out]; go_num, by rw [HL2.out]; go_num, HF.out _⟩, by simp [intOf]; omega⟩
      · have hx1 : ¬ x = -1 := fun e => hr (HXR.out.1 e)
        have hlen2 : (idx (phAt e0.pk rel) (evs.take (jn + 1))).length = un := by
          have : phAt e0.pk rel e jn = false := by simp [phAt, hpk]; simpa using hr
          rw [HTK'.out, this]; simp [HUN.out]
        have HL2 : Hid _ := hlen2
        clear hlen2 hyes hpk hr
        go_wp2
        exact ⟨⟨jn + 1, hlt, by go_num, by rw [HL1.out]; go_num, by rw [HL2.out], HF.out _⟩, by simp [intOf]; omega⟩
    · have hjm : jn = m := by omega
      subst hjm
      have hpq : pn = q := by rw [← hpn, List.take_of_length_le (by rw [HM.out]; omega), HX.out, HQ.out]
      have huq : un = q' := by rw [← hun, List.take_of_length_le (by rw [HM.out]; omega), HY.out, HQ'.out]
      subst hpq huq
      clear hpn hun
      go_wp2
      go_ret
      exact ⟨rfl, HB0.out.trans (hbw.mono (by simp))⟩
end
end Go.Proofs.Qxb6604372a
