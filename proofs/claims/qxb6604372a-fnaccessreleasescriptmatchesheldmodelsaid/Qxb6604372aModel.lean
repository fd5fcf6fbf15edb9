/-
  conflictAt, lenderBorrowedEarlier, modelReport.
-/
import Derived.Test.Qxb6604372aHist
import Derived.Test.Qxb6604372aPrep
import Derived.Test.Qxb6604372aStateM
namespace Go.Proofs.Qxb6604372a
open Go.ChangeShapes Go.WideShapes Go.ChangeAt Go.RowKit

section
variable {evs : List Ev}
set_option maxRecDepth 100000 in
set_option maxHeartbeats 2000000 in
theorem conflictAt_any (aps rps : List Int) (k : Nat) (hk : k < evs.length) (hla : aps.length = evs.length) (hlr : rps.length = evs.length) (eg ec ag ac rg rc : Nat) (w : World) (hev : EvRow w eg evs) (hap : IntRow w ag aps) (hrp : IntRow w rg rps) (hl : evs.length ≤ 1024) :
    Calls Try.prog 36 #[.slice (some ⟨eg, 0, none⟩) evs.length ec, .slice (some ⟨ag, 0, none⟩) evs.length ac, .slice (some ⟨rg, 0, none⟩) evs.length rc, .int .i64 k] w fun r w' => r = .returned (.bool (cfM evs aps rps k)) ∧ Below w.heap.size w w' := by
  obtain ⟨e, he⟩ : ∃ e, evs[k]? = some e := ⟨evs[k], by simp⟩
  obtain ⟨a, ha⟩ : ∃ a, aps[k]? = some a := ⟨aps[k], by simp⟩
  have hcf : cfM evs aps rps k = anyB (cfP evs rps e a) k := by unfold cfM; rw [he, ha]
  rw [hcf]
  have hb0 : Below w.heap.size w (w.alloc (.cells (ev8 e) 46)) := (Below.refl _ _).alloc (Nat.le_refl _) _
  obtain ⟨b0, b1, b2, b3, b4, b5, b6, b7⟩ := EvRow.at hev he
  have hlg : eg < w.heap.size := lt_of_cell b0
  have HEV : Hid (EvRow (w.alloc (.cells (ev8 e) 46)) eg evs) := EvRow.kept hev hb0
  have HRP : Hid (IntRow (w.alloc (.cells (ev8 e) 46)) rg rps) := IntRow.kept hrp hb0
  have HAP : Hid (IntRow (w.alloc (.cells (ev8 e) 46)) ag aps) := IntRow.kept hap hb0
  have HB0 : Hid (Below w.heap.size w (w.alloc (.cells (ev8 e) 46))) := hb0
  have HA : Hid (aps[k]? = some a) := ha
  clear hev hrp hap hb0 hcf he ha
  obtain ⟨m, hm⟩ : ∃ m, evs.length = m := ⟨_, rfl⟩
  rw [hm] at hl hk hla hlr ⊢
  have HM : Hid (evs.length = m) := hm
  have HRL : Hid (rps.length = m) := hlr
  clear hm hla hlr
  go_enter Try.func36, Try.ntmps36
  go_wp2
  clear b0 b1 b2 b3 b4 b5 b6 b7 hlg
  go_loopw [10] (fun j W => ∃ jn : Nat, jn ≤ k ∧ j = .int .i64 jn ∧ Hid (anyB (cfP evs rps e a) jn = false) ∧ Below (w.alloc (.cells (ev8 e) 46)).heap.size (w.alloc (.cells (ev8 e) 46)) W) (fun j _ => k - (intOf j).toNat)
  case atStart => exact ⟨0, Nat.zero_le _, rfl, rfl, Below.refl _ _⟩
  case round =>
    obtain ⟨jn, hjn, rfl, HNO, hbw⟩ := hrel
    by_cases hlt : jn < k
    · obtain ⟨h, hh⟩ : ∃ e, evs[jn]? = some e := ⟨evs[jn]'(by rw [HM.out]; omega), by simp⟩
      obtain ⟨x, hx⟩ : ∃ x, rps[jn]? = some x := ⟨rps[jn]'(by rw [HRL.out]; omega), by simp⟩
      obtain ⟨c0, c1, c2, c3, c4, c5, c6, c7⟩ := EvRow.at (EvRow.kept HEV.out hbw) hh
      have hlg : eg < wr.heap.size := lt_of_cell c0
      have hblk : wr.heap[w.heap.size]? = some (.cells (ev8 e) 46) := by rw [hbw.block _ (by simp)]; exact heap_at _ _ rfl
      have d0 : wr.cell? ⟨w.heap.size, 0, none⟩ = some (.int .i64 e.txn) := cell_of_block hblk rfl
      have d2 : wr.cell? ⟨w.heap.size, 2, none⟩ = some (.int .i64 e.site) := cell_of_block hblk rfl
      have d3 : wr.cell? ⟨w.heap.size, 3, none⟩ = some (.int .i64 e.page) := cell_of_block hblk rfl
      have d4 : wr.cell? ⟨w.heap.size, 4, none⟩ = some (.bool e.upd) := cell_of_block hblk rfl
      have hlw : w.heap.size < wr.heap.size := lt_of_cell d2
      have ca := IntRow.kept HAP.out hbw k a HA.out
      have cx := IntRow.kept HRP.out hbw jn x hx
      have hlr : rg < wr.heap.size := lt_of_cell cx
      have hla : ag < wr.heap.size := lt_of_cell ca
      have HP : Hid (cfP evs rps e a jn = cfJ e h x a) := by show _ = _; unfold cfP; rw [hh, hx]
      have HF : Hid (∀ o, Below (w.alloc (.cells (ev8 e) 46)).heap.size (w.alloc (.cells (ev8 e) 46)) (wr.alloc o)) := fun o => hbw.alloc hbw.size o
      have HNX : Hid (cfJ e h x a = false → anyB (cfP evs rps e a) (jn + 1) = false) := by
        intro h0
        show (anyB (cfP evs rps e a) jn || cfP evs rps e a jn) = false
        rw [HNO.out, HP.out, h0]; rfl
      have HYS : Hid (cfJ e h x a = true → anyB (cfP evs rps e a) k = true) := by
        intro h0
        rw [anyB_iff]
        exact ⟨jn, hlt, by rw [HP.out, h0]⟩
      clear hblk hx hh HP
      rcases bool_ft (h.site == e.site) with s0 | s0
      · have s0' : ¬ h.site = e.site := by simpa using s0
        go_wp2
        exact ⟨⟨jn + 1, hlt, by go_num, HNX.out (by rw [cfJ, s0]; rfl), HF.out _⟩, by simp [intOf]; omega⟩
      rcases bool_ft (h.page == e.page) with s1 | s1
      · have s1' : ¬ h.page = e.page := by simpa using s1
        have s0' : (h.site != e.site) = false := by simpa using s0
        go_wp2
        exact ⟨⟨jn + 1, hlt, by go_num, HNX.out (by rw [cfJ, s0, s1]; rfl), HF.out _⟩, by simp [intOf]; omega⟩
      have s0' : (h.site != e.site) = false := by simpa using s0
      have s1' : (h.page != e.page) = false := by simpa using s1
      have HG : Hid (∀ o n, Below (w.alloc (.cells (ev8 e) 46)).heap.size (w.alloc (.cells (ev8 e) 46)) ((wr.alloc o).drewN n)) := fun o n => below_drewN (HF.out o) n
      rcases bool_ft (x != -1 && decide (x < a)) with s2 | s2
      · go_upto_region 7 with fail
        go_cut [52] (fun v W => v = .bool false ∧ ∃ nq, W = (wr.alloc (.cells (ev8 h) 46)).drewN nq)
        case first =>
          by_cases hx1 : x = -1
          · subst hx1
            go_quiet (fail)
            go_wp2
            go_meet
            case rel => exact ⟨rfl, _, rfl⟩
          · have hx1b : (x != -1) = true := by simpa using hx1
            have hx2 : ¬ x < a := by simp [hx1] at s2; omega
            have hx2b : decide (x < a) = false := by simpa using hx2
            go_quiet (fail)
            go_wp2
            go_meet
            case rel => exact ⟨rfl, _, rfl⟩
        case rest =>
        obtain ⟨rfl, nq, rfl⟩ := hcut
        rcases bool_ft (h.txn == e.txn) with s3 | s3
        · have s3' : ¬ h.txn = e.txn := by simpa using s3
          have s3'' : (h.txn != e.txn) = true := by simpa using s3
          rcases bool_ft e.upd with hu | hu
          · rcases bool_ft h.upd with hv | hv
            · go_wp2
              exact ⟨⟨jn + 1, hlt, by go_num, HNX.out (by rw [cfJ, s0, s1, s2, s3'', hu, hv]; rfl), HG.out _ _⟩, by simp [intOf]; omega⟩
            · go_wp2
              go_ret
              exact ⟨by rw [HYS.out (by rw [cfJ, s0, s1, s2, s3'', hu, hv]; rfl)]; rfl, HB0.out.trans ((HG.out _ _).mono (by simp))⟩
          · go_wp2
            go_ret
            exact ⟨by rw [HYS.out (by rw [cfJ, s0, s1, s2, s3'', hu]; rfl)]; rfl, HB0.out.trans ((HG.out _ _).mono (by simp))⟩
        · have s3'' : (h.txn != e.txn) = false := by simpa using s3
          go_wp2
          exact ⟨⟨jn + 1, hlt, by go_num, HNX.out (by rw [cfJ, s0, s1, s2, s3'']; rfl), HG.out _ _⟩, by simp [intOf]; omega⟩
      · go_upto_region 7 with fail
        go_cut [52] (fun v W => v = .bool true ∧ ∃ nq, W = (wr.alloc (.cells (ev8 h) 46)).drewN nq)
        case first =>
          have hx1 : ¬ x = -1 := by simp at s2; exact s2.1
          have hx1b : (x != -1) = true := by simpa using hx1
          have hx2 : x < a := by simp at s2; exact s2.2
          have hx2b : decide (x < a) = true := by simpa using hx2
          go_quiet (fail)
          go_wp2
          go_meet
          case rel => exact ⟨rfl, _, rfl⟩
        case rest =>
        obtain ⟨rfl, nq, rfl⟩ := hcut
        go_wp2
        exact ⟨⟨jn + 1, hlt, by go_num, HNX.out (by rw [cfJ, s2]; simp), HG.out _ _⟩, by simp [intOf]; omega⟩
    · have hjk : jn = k := by omega
      subst hjk
      go_wp2
      go_ret
      exact ⟨by rw [HNO.out]; rfl, HB0.out.trans (hbw.mono (by simp))⟩

set_option maxRecDepth 100000 in
set_option maxHeartbeats 2000000 in
theorem lender_any (k : Nat) (e : Ev) (he : evs[k]? = some e) (eg ec : Nat) (w : World) (hev : EvRow w eg evs) (hl : evs.length ≤ 1024) :
    Calls Try.prog 37 #[.slice (some ⟨eg, 0, none⟩) evs.length ec, .int .i64 k] w fun r w' => r = .returned (.bool (anyB (chP evs e) k)) ∧ Below w.heap.size w w' := by
  have hk : k < evs.length := (List.getElem?_eq_some_iff.1 he).1
  have hb0 : Below w.heap.size w (w.alloc (.cells (ev8 e) 46)) := (Below.refl _ _).alloc (Nat.le_refl _) _
  obtain ⟨b0, b1, b2, b3, b4, b5, b6, b7⟩ := EvRow.at hev he
  have hlg : eg < w.heap.size := lt_of_cell b0
  have HEV : Hid (EvRow (w.alloc (.cells (ev8 e) 46)) eg evs) := EvRow.kept hev hb0
  have HB0 : Hid (Below w.heap.size w (w.alloc (.cells (ev8 e) 46))) := hb0
  clear hev hb0 he
  obtain ⟨m, hm⟩ : ∃ m, evs.length = m := ⟨_, rfl⟩
  rw [hm] at hl hk ⊢
  have HM : Hid (evs.length = m) := hm
  clear hm
  go_enter Try.func37, Try.ntmps37
  go_wp2
  clear b0 b1 b2 b3 b4 b5 b6 b7 hlg
  go_loopw [6] (fun j W => ∃ jn : Nat, jn ≤ k ∧ j = .int .i64 jn ∧ Hid (anyB (chP evs e) jn = false) ∧ Below (w.alloc (.cells (ev8 e) 46)).heap.size (w.alloc (.cells (ev8 e) 46)) W) (fun j _ => k - (intOf j).toNat)
  case atStart => exact ⟨0, Nat.zero_le _, rfl, rfl, Below.refl _ _⟩
  case round =>
    obtain ⟨jn, hjn, rfl, HNO, hbw⟩ := hrel
    by_cases hlt : jn < k
    · obtain ⟨h, hh⟩ : ∃ e, evs[jn]? = some e := ⟨evs[jn]'(by rw [HM.out]; omega), by simp⟩
      obtain ⟨c0, c1, c2, c3, c4, c5, c6, c7⟩ := EvRow.at (EvRow.kept HEV.out hbw) hh
      have hlg : eg < wr.heap.size := lt_of_cell c0
      have hblk : wr.heap[w.heap.size]? = some (.cells (ev8 e) 46) := by rw [hbw.block _ (by simp)]; exact heap_at _ _ rfl
      have d6 : wr.cell? ⟨w.heap.size, 6, none⟩ = some (.int .i64 e.lt) := cell_of_block hblk rfl
      have d7 : wr.cell? ⟨w.heap.size, 7, none⟩ = some (.int .i64 e.ln) := cell_of_block hblk rfl
      have hlw : w.heap.size < wr.heap.size := lt_of_cell d6
      have HP : Hid (chP evs e jn = chJ e h) := by show _ = _; unfold chP; rw [hh]
      have HF : Hid (∀ o, Below (w.alloc (.cells (ev8 e) 46)).heap.size (w.alloc (.cells (ev8 e) 46)) (wr.alloc o)) := fun o => hbw.alloc hbw.size o
      have HNX : Hid (chJ e h = false → anyB (chP evs e) (jn + 1) = false) := by
        intro h0
        show (anyB (chP evs e) jn || chP evs e jn) = false
        rw [HNO.out, HP.out, h0]; rfl
      have HYS : Hid (chJ e h = true → anyB (chP evs e) k = true) := by
        intro h0
        rw [anyB_iff]
        exact ⟨jn, hlt, by rw [HP.out, h0]⟩
      clear hblk hh HP
      rcases bool_ft h.bor with hb | hb
      · go_wp2
        exact ⟨⟨jn + 1, hlt, by go_num, HNX.out (by rw [chJ, hb]; rfl), HF.out _⟩, by simp [intOf]; omega⟩
      rcases bool_ft (h.txn == e.lt) with s0 | s0
      · go_wp2
        exact ⟨⟨jn + 1, hlt, by go_num, HNX.out (by rw [chJ, s0, hb]; rfl), HF.out _⟩, by simp [intOf]; omega⟩
      rcases bool_ft (h.n == e.ln) with s1 | s1
      · go_wp2
        exact ⟨⟨jn + 1, hlt, by go_num, HNX.out (by rw [chJ, s0, s1, hb]; rfl), HF.out _⟩, by simp [intOf]; omega⟩
      go_wp2
      go_ret
      exact ⟨by rw [HYS.out (by rw [chJ, s0, s1, hb]; rfl)]; rfl, HB0.out.trans ((HF.out _).mono (by simp))⟩
    · have hjk : jn = k := by omega
      subst hjk
      go_wp2
      go_ret
      exact ⟨by rw [HNO.out]; rfl, HB0.out.trans (hbw.mono (by simp))⟩
end
end Go.Proofs.Qxb6604372a
