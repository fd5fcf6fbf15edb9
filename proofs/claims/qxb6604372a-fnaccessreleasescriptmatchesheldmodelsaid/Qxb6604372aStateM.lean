/-
  stateMatches.
-/
import Derived.Test.Qxb6604372aState
import Derived.Test.Qxb6604372aMatchP
import Derived.Test.Qxb6604372aMatchR
import Derived.Deep.DeepCutAuto
namespace Go.Proofs.Qxb6604372a
open Go.ChangeShapes Go.WideShapes Go.ChangeAt Go.RowKit

theorem bool_ft (b : Bool) : b = false ∨ b = true := by cases b <;> simp
section
variable {base : Nat} {L : Lay} {evs : List Ev} {rel : Nat → Bool} {lc cv : Int} {extra : List K3}
set_option maxRecDepth 100000 in
set_option maxHeartbeats 4000000 in
theorem stateMatches_any (rps : List Int) (ea ra : Option Addr) (ec rc A : Nat) (w : World) (h : ScrSt base evs rel lc cv extra L w) (hA : L.A = A)
    (hev : 0 < evs.length → ∃ eg, ea = some ⟨eg, 0, none⟩ ∧ EvRow w eg evs) (hrp : 0 < evs.length → ∃ rg, ra = some ⟨rg, 0, none⟩ ∧ IntRow w rg rps) (hrl : rps.length = evs.length)
    (hre : ∀ (j : Nat) x, rps[j]? = some x → (x = -1 ↔ rel j = false)) (hl : evs.length ≤ 1024) (hx : extra.length ≤ 1) :
    Calls Try.prog 23 #[pv A, .slice ea evs.length ec, .slice ra evs.length rc, .int .i64 extra.length] w fun r w' => r = .returned (.bool true) ∧ Below w.heap.size w w' := by
  have h17 : Calls Try.prog 17 #[pv A] w fun e w' => e = .returned (.int .i64 evs.length) ∧ w' = w := by
    subst hA; have := accessCount_any w h.inv; simpa [stOf] using this
  have h18 : ∀ W, Below w.heap.size w W → Calls Try.prog 18 #[pv A] W fun e w' => e = .returned (.int .i64 (firsts Ev.pk evs).length) ∧ w' = W := by
    intro W hb; subst hA; have := pageCount_any W (h.inv.below hb); rw [h.lens.1] at this; exact this
  have h14 : ∀ W, Below w.heap.size w W → Calls Try.prog 14 #[pv A] W fun e w' => e = .returned (.int .i64 ((firsts Ev.ck evs).length + extra.length : Nat)) ∧ w' = W := by
    intro W hb; subst hA; have := cohortCount_any W (h.inv.below hb); rw [h.lens.2.1] at this; exact this
  have h19 : ∀ W, Below w.heap.size w W → Calls Try.prog 19 #[pv A] W fun e w' => e = .returned (.int .i64 (firsts Ev.who (evs.filter Ev.bor)).length) ∧ w' = W := by
    intro W hb; subst hA; have := runCount_any W (h.inv.below hb); rw [h.lens.2.2] at this; exact this
  have h32 : ∀ W, Below w.heap.size w W → ∀ (k : Nat) e, evs[k]? = some e → Calls Try.prog 32 #[pv A, .int .i64 k] W fun r w' => r = .returned (.tuple #[.int .i64 e.txn, .int .i64 e.n, .int .i64 e.site, .int .i64 e.page, .bool e.upd, .bool false]) ∧ Below W.heap.size W w' := by
    intro W hb k e he; subst hA; exact accessAt_any k e.acc W (h.inv.below hb) (by simp [stOf, he])
  have H17 : Hid _ := h17
  have H18 : Hid _ := h18
  have H14 : Hid _ := h14
  have H19 : Hid _ := h19
  have H32 : Hid _ := h32
  have H : Hid (ScrSt base evs rel lc cv extra L w) := h
  have HAA : Hid (L.A = A) := hA
  have HEV : Hid (0 < evs.length → ∃ eg, ea = some ⟨eg, 0, none⟩ ∧ EvRow w eg evs) := hev
  have HRP : Hid (0 < evs.length → ∃ rg, ra = some ⟨rg, 0, none⟩ ∧ IntRow w rg rps) := hrp
  have HRL : Hid (rps.length = evs.length) := hrl
  have HRE : Hid (∀ (j : Nat) x, rps[j]? = some x → (x = -1 ↔ rel j = false)) := hre
  have HL : Hid (evs.length ≤ 1024) := hl
  clear h17 h18 h14 h19 h32 h hA hev hrp hrl hre
  obtain ⟨m, hm⟩ : ∃ m, evs.length = m := ⟨_, rfl⟩
  obtain ⟨x, hxe⟩ : ∃ x, extra.length = x := ⟨_, rfl⟩
  rw [hm] at hl H17 ⊢
  rw [hxe] at hx H14 ⊢
  have HM : Hid (evs.length = m) := hm
  clear hm hxe
  go_enter Try.func23, Try.ntmps23
  go_wp2_with fail
  refine Calls.mono H17.out ?_
  rintro r w' ⟨rfl, rfl⟩
  have hnn : ((m : Int) != (m : Int)) = false := by simp
  go_wp2
  go_loopw [10, 11, 12, 13] (fun p c u j W => ∃ kn : Nat, kn ≤ m ∧ j = .int .i64 kn ∧ p = .int .i64 (firsts Ev.pk (evs.take kn)).length ∧ c = .int .i64 (firsts Ev.ck (evs.take kn)).length ∧ u = .int .i64 (firsts Ev.who ((evs.take kn).filter Ev.bor)).length ∧ Below w'.heap.size w' W) (fun _ _ _ j _ => m - (intOf j).toNat)
  case atStart => exact ⟨0, Nat.zero_le _, rfl, rfl, rfl, rfl, Below.refl _ _⟩
  case round =>
    obtain ⟨kn, hkn, rfl, rfl, rfl, rfl, hbw⟩ := hrel
    by_cases hlt : kn < m
    · obtain ⟨e, he⟩ : ∃ e, evs[kn]? = some e := ⟨evs[kn]'(by rw [HM.out]; exact hlt), by simp⟩
      obtain ⟨eg, hea, hev⟩ := HEV.out (by rw [HM.out]; omega)
      obtain ⟨rg, hra, hrp⟩ := HRP.out (by rw [HM.out]; omega)
      subst hea hra
      have h33 : ∀ W, Below w'.heap.size w' W → Calls Try.prog 33 #[pv A, .slice (some ⟨eg, 0, none⟩) m ec, .slice (some ⟨rg, 0, none⟩) m rc, .int .i64 kn] W fun r w' => r = .returned (.bool true) ∧ Below W.heap.size W w' := by
        intro W hb
        obtain ⟨pb, hpb⟩ := H.out.pag (List.mem_of_getElem? he)
        rw [← HM.out]
        exact pageMatches_any kn e he rps eg ec rg rc pb A W (H.out.inv.below hb) HAA.out (EvRow.kept hev hb) (IntRow.kept hrp hb) HRL.out HRE.out hpb HL.out
      have h34 : ∀ W, Below w'.heap.size w' W → Calls Try.prog 34 #[pv A, .slice (some ⟨eg, 0, none⟩) m ec, .int .i64 e.txn, .int .i64 e.n, .int .i64 e.site] W fun r w' => r = .returned (.bool true) ∧ Below W.heap.size W w' := by
        intro W hb
        obtain ⟨pb, hpb⟩ := H.out.coh (List.mem_of_getElem? he)
        rw [← HM.out]
        exact cohortMatches_any e.txn e.n e.site eg ec pb A W (H.out.inv.below hb) HAA.out (EvRow.kept hev hb) hpb HL.out
      have h35 : ∀ W, Below w'.heap.size w' W → e.bor = true → Calls Try.prog 35 #[pv A, .slice (some ⟨eg, 0, none⟩) m ec, .int .i64 kn] W fun r w' => r = .returned (.bool true) ∧ Below W.heap.size W w' := by
        intro W hb hbor
        obtain ⟨pb, hpb⟩ := H.out.run (List.mem_of_getElem? he) hbor
        rw [← HM.out]
        exact runMatches_any kn e he eg ec pb A W (H.out.inv.below hb) HAA.out (EvRow.kept hev hb) hpb HL.out
      obtain ⟨np0, hnp0⟩ : ∃ n, (firsts Ev.pk (evs.take kn)).length = n := ⟨_, rfl⟩
      obtain ⟨nc0, hnc0⟩ : ∃ n, (firsts Ev.ck (evs.take kn)).length = n := ⟨_, rfl⟩
      obtain ⟨nr0, hnr0⟩ : ∃ n, (firsts Ev.who ((evs.take kn).filter Ev.bor)).length = n := ⟨_, rfl⟩
      rw [hnp0, hnc0, hnr0]
      have hnp1 : np0 ≤ kn := by rw [← hnp0]; exact Nat.le_trans (firsts_le _ _) (by simp; omega)
      have hnc1 : nc0 ≤ kn := by rw [← hnc0]; exact Nat.le_trans (firsts_le _ _) (by simp; omega)
      have hnr1 : nr0 ≤ kn := by rw [← hnr0]; exact Nat.le_trans (firsts_le _ _) (Nat.le_trans (List.length_filter_le _ _) (by simp; omega))
      have htp := firsts_take Ev.pk he
      have htc := firsts_take Ev.ck he
      have htr := runs_take he
      rw [hnp0] at htp
      rw [hnc0] at htc
      rw [hnr0] at htr
      have HTP : Hid _ := htp
      have HTC : Hid _ := htc
      have HTR : Hid _ := htr
      have H33 : Hid _ := h33
      have H34 : Hid _ := h34
      have H35 : Hid _ := h35
      have HE : Hid (evs[kn]? = some e) := he
      have HV : Hid (EvRow w' eg evs) := hev
      obtain ⟨c0, c1, c2, c3, c4, c5, c6, c7⟩ := EvRow.at (EvRow.kept hev hbw) he
      have hlg : eg < wr.heap.size := lt_of_cell c0
      clear htp htc htr h33 h34 h35 he hev hrp hnp0 hnc0 hnr0
      go_wp2_with fail
      refine Calls.mono (H32.out _ (hbw.alloc hbw.size _) kn e HE.out) ?_
      rintro r w2 ⟨rfl, hb2⟩
      have hblk := hb2.block wr.heap.size (by simp)
      rw [heap_at _ _ rfl] at hblk
      have HB2 : Hid (Below w'.heap.size w' w2) := (hbw.alloc hbw.size _).trans (hb2.mono (by have := hbw.size; simp; omega))
      have hB : wr.heap.size < w2.heap.size := by have := hb2.size; simp at this; omega
      have HBLK : Hid (w2.heap[wr.heap.size]? = some (.cells (ev8 e) 46)) := hblk
      clear c0 c1 c2 c3 c4 c5 c6 c7 hlg hb2 hbw
      have d0 : w2.cell? ⟨wr.heap.size, 0, none⟩ = some (.int .i64 e.txn) := cell_of_block hblk rfl
      have d1 : w2.cell? ⟨wr.heap.size, 1, none⟩ = some (.int .i64 e.n) := cell_of_block hblk rfl
      have d2 : w2.cell? ⟨wr.heap.size, 2, none⟩ = some (.int .i64 e.site) := cell_of_block hblk rfl
      have d3 : w2.cell? ⟨wr.heap.size, 3, none⟩ = some (.int .i64 e.page) := cell_of_block hblk rfl
      have d4 : w2.cell? ⟨wr.heap.size, 4, none⟩ = some (.bool e.upd) := cell_of_block hblk rfl
      have d5 : w2.cell? ⟨wr.heap.size, 5, none⟩ = some (.bool e.bor) := cell_of_block hblk rfl
      clear hblk
      generalize wr.heap.size = B at *
      clear wr
      go_wp2
      go_loopw [21, 22, 23, 24] (fun p c u j W => ∃ jn : Nat, jn ≤ kn ∧ j = .int .i64 jn ∧ p = .bool (!(evs.take jn).any (fun h => h.pk == e.pk)) ∧ c = .bool (!(evs.take jn).any (fun h => h.ck == e.ck)) ∧ u = .bool (e.bor && !(evs.take jn).any (fun h => h.bor && h.who == e.who)) ∧ Below w2.heap.size w2 W) (fun _ _ _ j _ => kn - (intOf j).toNat)
      case atStart => exact ⟨0, Nat.zero_le _, rfl, rfl, rfl, by simp, Below.refl _ _⟩
      case round =>
        obtain ⟨jn, hjn, rfl, rfl, rfl, rfl, hbx⟩ := hrel
        obtain ⟨bp, hbp⟩ : ∃ b, (evs.take jn).any (fun h => h.pk == e.pk) = b := ⟨_, rfl⟩
        obtain ⟨bc, hbc⟩ : ∃ b, (evs.take jn).any (fun h => h.ck == e.ck) = b := ⟨_, rfl⟩
        obtain ⟨br, hbr⟩ : ∃ b, (evs.take jn).any (fun h => h.bor && h.who == e.who) = b := ⟨_, rfl⟩
        rw [hbp, hbc, hbr]
        by_cases hjlt : jn < kn
        · clear d0 d1 d2 d3 d4 d5
          have hblk : wr.heap[B]? = some (.cells (ev8 e) 46) := by rw [hbx.block _ hB]; exact HBLK.out
          have d0 : wr.cell? ⟨B, 0, none⟩ = some (.int .i64 e.txn) := cell_of_block hblk rfl
          have d1 : wr.cell? ⟨B, 1, none⟩ = some (.int .i64 e.n) := cell_of_block hblk rfl
          have d2 : wr.cell? ⟨B, 2, none⟩ = some (.int .i64 e.site) := cell_of_block hblk rfl
          have d3 : wr.cell? ⟨B, 3, none⟩ = some (.int .i64 e.page) := cell_of_block hblk rfl
          have hBl : B < wr.heap.size := lt_of_cell d0
          obtain ⟨f, hf⟩ : ∃ f, evs[jn]? = some f := ⟨evs[jn]'(by rw [HM.out]; omega), by simp⟩
          obtain ⟨c0, c1, c2, c3, c4, c5, c6, c7⟩ := EvRow.at (EvRow.kept HV.out (HB2.out.trans (hbx.mono HB2.out.size))) hf
          have hlg : eg < wr.heap.size := lt_of_cell c0
          have hjm : (jn : Int) < (m : Int) := by omega
          have tp := any_take hf (fun h => h.pk == e.pk)
          have tc := any_take hf (fun h => h.ck == e.ck)
          have tr := any_take hf (fun h => h.bor && h.who == e.who)
          rw [hbp] at tp
          rw [hbc] at tc
          rw [hbr] at tr
          have HTP' : Hid _ := tp
          have HTC' : Hid _ := tc
          have HTR' : Hid _ := tr
          have hfin : ∀ o, Below w2.heap.size w2 (wr.alloc o) := fun o => hbx.alloc hbx.size o
          have HF : Hid (∀ o, Below w2.heap.size w2 (wr.alloc o)) := hfin
          clear tp tc tr hblk hf hbp hbc hbr hfin
          have hpk : (f.pk == e.pk) = (f.site == e.site && f.page == e.page) := rfl
          have hck : (f.ck == e.ck) = (f.txn == e.txn && (f.n == e.n && f.site == e.site)) := rfl
          have hwk : (f.who == e.who) = (f.txn == e.txn && f.n == e.n) := rfl
          simp only [hpk] at HTP'
          simp only [hck] at HTC'
          simp only [hwk] at HTR'
          clear hpk hck hwk
          go_upto_region 21 with fail
          go_cut [104] (fun v W => v = .bool (f.site == e.site && f.page == e.page) ∧ W = wr.alloc (.cells (ev8 f) 46))
          case first =>
            rcases bool_ft (f.site == e.site) with s0 | s0
            · go_wp2
              go_meet
              case rel => exact ⟨by rw [s0]; rfl, rfl⟩
            rcases bool_ft (f.page == e.page) with s1 | s1
            · go_wp2
              go_meet
              case rel => exact ⟨by rw [s0, s1]; rfl, rfl⟩
            go_wp2
            go_meet
            case rel => exact ⟨by rw [s0, s1]; rfl, rfl⟩
          case rest =>
          obtain ⟨rfl, rfl⟩ := hcut
          obtain ⟨q1, hq1⟩ : ∃ q, (f.site == e.site && f.page == e.page) = q := ⟨_, rfl⟩
          rw [hq1] at HTP' ⊢
          clear hq1
          go_upto_if 104 with fail
          go_cut [21] (fun v W => v = .bool (!(bp || q1)) ∧ W = wr.alloc (.cells (ev8 f) 46))
          case first =>
            cases q1
            · go_wp2
              go_meet
              case rel => exact ⟨by simp, rfl⟩
            · go_wp2
              go_meet
              case rel => exact ⟨by simp, rfl⟩
          case rest =>
          obtain ⟨rfl, rfl⟩ := hcut
          go_upto_region 23 with fail
          go_cut [123] (fun v W => v = .bool (f.txn == e.txn && (f.n == e.n && f.site == e.site)) ∧ W = wr.alloc (.cells (ev8 f) 46))
          case first =>
            rcases bool_ft (f.txn == e.txn) with s0 | s0
            · go_wp2
              go_meet
              case rel => exact ⟨by rw [s0]; rfl, rfl⟩
            rcases bool_ft (f.n == e.n) with s1 | s1
            · go_wp2
              go_meet
              case rel => exact ⟨by rw [s0, s1]; rfl, rfl⟩
            rcases bool_ft (f.site == e.site) with s2 | s2
            · go_wp2
              go_meet
              case rel => exact ⟨by rw [s0, s1, s2]; rfl, rfl⟩
            go_wp2
            go_meet
            case rel => exact ⟨by rw [s0, s1, s2]; rfl, rfl⟩
          case rest =>
          obtain ⟨rfl, rfl⟩ := hcut
          obtain ⟨q2, hq2⟩ : ∃ q, (f.txn == e.txn && (f.n == e.n && f.site == e.site)) = q := ⟨_, rfl⟩
          rw [hq2] at HTC' ⊢
          clear hq2
          go_upto_if 123 with fail
          go_cut [22] (fun v W => v = .bool (!(bc || q2)) ∧ W = wr.alloc (.cells (ev8 f) 46))
          case first =>
            cases q2
            · go_wp2
              go_meet
              case rel => exact ⟨by simp, rfl⟩
            · go_wp2
              go_meet
              case rel => exact ⟨by simp, rfl⟩
          case rest =>
          obtain ⟨rfl, rfl⟩ := hcut
          go_upto_region 25 with fail
          go_cut [139] (fun v W => v = .bool (f.bor && (f.txn == e.txn && f.n == e.n)) ∧ W = wr.alloc (.cells (ev8 f) 46))
          case first =>
            rcases bool_ft (f.bor) with s0 | s0
            · go_wp2
              go_meet
              case rel => exact ⟨by rw [s0]; rfl, rfl⟩
            rcases bool_ft (f.txn == e.txn) with s1 | s1
            · go_wp2
              go_meet
              case rel => exact ⟨by rw [s0, s1]; rfl, rfl⟩
            rcases bool_ft (f.n == e.n) with s2 | s2
            · go_wp2
              go_meet
              case rel => exact ⟨by rw [s0, s1, s2]; rfl, rfl⟩
            go_wp2
            go_meet
            case rel => exact ⟨by rw [s0, s1, s2]; rfl, rfl⟩
          case rest =>
          obtain ⟨rfl, rfl⟩ := hcut
          obtain ⟨q3, hq3⟩ : ∃ q, (f.bor && (f.txn == e.txn && f.n == e.n)) = q := ⟨_, rfl⟩
          rw [hq3] at HTR' ⊢
          clear hq3
          cases q3
          · go_wp2
            go_roundw
            case rel => exact ⟨jn + 1, hjlt, by go_num, by rw [HTP'.out], by rw [HTC'.out], by rw [HTR'.out, Bool.or_false], HF.out _⟩
            case measure => simp [intOf]; omega
          · go_wp2
            go_roundw
            case rel => exact ⟨jn + 1, hjlt, by go_num, by rw [HTP'.out], by rw [HTC'.out], by rw [HTR'.out, Bool.or_true]; simp, HF.out _⟩
            case measure => simp [intOf]; omega
        · have hjk : jn = kn := by omega
          subst hjk
          have htp := HTP.out
          have htc := HTC.out
          have htr := HTR.out
          rw [hbp] at htp
          rw [hbc] at htc
          rw [hbr] at htr
          have HTP : Hid _ := htp
          have HTC : Hid _ := htc
          have HTR : Hid _ := htr
          have HB3 : Hid (Below w'.heap.size w' wr) := HB2.out.trans (hbx.mono HB2.out.size)
          have HBLK3 : Hid (wr.heap[B]? = some (.cells (ev8 e) 46)) := by show _ = _; rw [hbx.block _ hB]; exact HBLK.out
          clear htp htc htr hbp hbc hbr d0 d1 d2 d3 d4 d5 hbx HBLK
          go_upto_if 140 with fail
          go_cut [10] (fun v W => v = .int .i64 ((np0 + (if !bp then 1 else 0) : Nat)) ∧ Hid (Below w'.heap.size w' W) ∧ Hid (W.heap[B]? = some (.cells (ev8 e) 46)))
          case first =>
            cases bp
            · go_wp2_with fail
              refine Calls.mono (H33.out _ HB3.out) ?_
              rintro r w3 ⟨rfl, hb3⟩
              go_wp2
              go_meet
              case rel => exact ⟨by simp, HB3.out.trans (hb3.mono HB3.out.size), by show _ = _; rw [hb3.block _ (Array.getElem?_eq_some_iff.1 HBLK3.out).1]; exact HBLK3.out⟩
            · go_wp2
              go_meet
              case rel => exact ⟨by simp, HB3, HBLK3⟩
          case rest =>
          obtain ⟨rfl, HB4, HBLK4⟩ := hcut
          clear HB3 HBLK3
          obtain ⟨np1, hnp1'⟩ : ∃ n, np0 + (if !bp then 1 else 0) = n := ⟨_, rfl⟩
          rw [hnp1'] at HTP ⊢
          clear hnp1' hnp1
          go_upto_if 149 with fail
          go_cut [11] (fun v W => v = .int .i64 ((nc0 + (if !bc then 1 else 0) : Nat)) ∧ Hid (Below w'.heap.size w' W))
          case first =>
            cases bc
            · have d0 : wc.cell? ⟨B, 0, none⟩ = some (.int .i64 e.txn) := cell_of_block HBLK4.out rfl
              have d1 : wc.cell? ⟨B, 1, none⟩ = some (.int .i64 e.n) := cell_of_block HBLK4.out rfl
              have d2 : wc.cell? ⟨B, 2, none⟩ = some (.int .i64 e.site) := cell_of_block HBLK4.out rfl
              have hBl : B < wc.heap.size := lt_of_cell d0
              go_wp2_with fail
              refine Calls.mono (H34.out _ HB4.out) ?_
              rintro r w3 ⟨rfl, hb3⟩
              go_wp2
              go_meet
              case rel => exact ⟨by simp, HB4.out.trans (hb3.mono HB4.out.size)⟩
            · go_wp2
              go_meet
              case rel => exact ⟨by simp, HB4⟩
          case rest =>
          obtain ⟨rfl, HB5⟩ := hcut
          clear HB4 HBLK4
          obtain ⟨nc1, hnc1'⟩ : ∃ n, nc0 + (if !bc then 1 else 0) = n := ⟨_, rfl⟩
          rw [hnc1'] at HTC ⊢
          clear hnc1' hnc1
          obtain ⟨nr, hnr⟩ : ∃ b, (e.bor && !br) = b := ⟨_, rfl⟩
          rw [hnr] at HTR ⊢
          have HNR : Hid _ := hnr
          clear hnr
          cases nr
          · go_wp2
            go_roundw
            case rel => exact ⟨jn + 1, hlt, by go_num, by rw [HTP.out], by rw [HTC.out], by rw [HTR.out]; rfl, HB5.out⟩
            case measure => simp [intOf]; omega
          · have hbor : e.bor = true := by have := HNR.out; simp at this; exact this.1
            have HBO : Hid _ := hbor
            clear hbor
            go_wp2_with fail
            refine Calls.mono (H35.out _ HB5.out HBO.out) ?_
            rintro r w3 ⟨rfl, hb3⟩
            go_wp2
            go_roundw
            case rel => exact ⟨jn + 1, hlt, by go_num, by rw [HTP.out], by rw [HTC.out], by rw [HTR.out]; go_num, HB5.out.trans (hb3.mono HB5.out.size)⟩
            case measure => simp [intOf]; omega
    · have hkm : kn = m := by omega
      subst hkm
      have htk : evs.take kn = evs := List.take_of_length_le (by rw [HM.out]; omega)
      rw [htk]
      clear htk
      have hc1 := firsts_le Ev.ck evs
      rw [HM.out] at hc1
      obtain ⟨a1, ha1⟩ : ∃ n, (firsts Ev.pk evs).length = n := ⟨_, rfl⟩
      obtain ⟨a2, ha2⟩ : ∃ n, (firsts Ev.ck evs).length = n := ⟨_, rfl⟩
      obtain ⟨a3, ha3⟩ : ∃ n, (firsts Ev.who (evs.filter Ev.bor)).length = n := ⟨_, rfl⟩
      rw [ha1] at H18 ⊢
      rw [ha2] at H14 hc1 ⊢
      rw [ha3] at H19 ⊢
      clear ha1 ha2 ha3
      go_wp2_with fail
      refine Calls.mono (H18.out _ hbw) ?_
      rintro r w3 ⟨rfl, rfl⟩
      go_wp2_with fail
      refine Calls.mono (H14.out _ hbw) ?_
      rintro r w3 ⟨rfl, rfl⟩
      have hsum : (((a2 + x : Nat) : Int) == (a2 : Int) + (x : Int)) = true := by simp
      go_wp2_with fail
      refine Calls.mono (H19.out _ hbw) ?_
      rintro r w3 ⟨rfl, rfl⟩
      go_wp2
      go_ret
      exact ⟨rfl, hbw⟩
end
end Go.Proofs.Qxb6604372a
