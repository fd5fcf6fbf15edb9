/-
  modelReport.
-/
import Derived.Test.Qxb6604372aModel
namespace Go.Proofs.Qxb6604372a
open Go.ChangeShapes Go.WideShapes Go.ChangeAt Go.RowKit

abbrev rep8 (lc cv : Int) : Array Value := #[.int .i64 0, .int .i64 lc, .int .i64 0, .int .i64 0, .int .i64 0, .int .i64 cv, .int .i64 0, .int .i64 0]
/-- The report that is being made: B + 1 holds it, B waits for it. -/
structure RepSt (w : World) (B : Nat) (lc cv : Int) (W : World) : Prop where
  below : Below B w W
  res : W.heap[B]? = some (.cells (rep8 0 0) 39)
  cur : W.heap[B + 1]? = some (.cells (rep8 lc cv) 39)
theorem RepSt.kept {w W W' : World} {B : Nat} {lc cv : Int} (h : RepSt w B lc cv W) (hb : Below W.heap.size W W') : RepSt w B lc cv W' where
  below := h.below.trans (hb.mono (by have := (Array.getElem?_eq_some_iff.1 h.res).1; omega))
  res := by rw [hb.block _ (Array.getElem?_eq_some_iff.1 h.res).1]; exact h.res
  cur := by rw [hb.block _ (Array.getElem?_eq_some_iff.1 h.cur).1]; exact h.cur
theorem RepSt.store1 {w W : World} {B : Nat} {lc cv : Int} (h : RepSt w B lc cv W) (x : Int) : RepSt w B x cv (W.setCell ⟨B + 1, 1, none⟩ (.int .i64 x)) where
  below := h.below.setCell (by show B ≤ B + 1; omega) _
  res := by rw [Below.heap_setCell _ _ _ _ (by show B ≠ B + 1; omega)]; exact h.res
  cur := heap_setCell_same h.cur _ _
theorem RepSt.store5 {w W : World} {B : Nat} {lc cv : Int} (h : RepSt w B lc cv W) (x : Int) : RepSt w B lc x (W.setCell ⟨B + 1, 5, none⟩ (.int .i64 x)) where
  below := h.below.setCell (by show B ≤ B + 1; omega) _
  res := by rw [Below.heap_setCell _ _ _ _ (by show B ≠ B + 1; omega)]; exact h.res
  cur := heap_setCell_same h.cur _ _
section
variable {evs : List Ev}
set_option maxRecDepth 100000 in
set_option maxHeartbeats 2000000 in
theorem modelReport_any (aps rps : List Int) (hla : aps.length = evs.length) (hlr : rps.length = evs.length) (ea aa ra : Option Addr) (ec ac rc : Nat) (w : World)
    (hev : 0 < evs.length → ∃ eg, ea = some ⟨eg, 0, none⟩ ∧ EvRow w eg evs) (hap : 0 < evs.length → ∃ g, aa = some ⟨g, 0, none⟩ ∧ IntRow w g aps) (hrp : 0 < evs.length → ∃ g, ra = some ⟨g, 0, none⟩ ∧ IntRow w g rps) (hl : evs.length ≤ 1024) :
    Calls Try.prog 25 #[.slice ea evs.length ec, .slice aa evs.length ac, .slice ra evs.length rc] w fun r w' => r = .returned (.agg (rep8 (cnt (cfM evs aps rps) evs.length) (cnt (chM evs) evs.length))) ∧ Below w.heap.size w w' := by
  have H36 : Hid (∀ W, Below w.heap.size w W → ∀ k, k < evs.length → Calls Try.prog 36 #[.slice ea evs.length ec, .slice aa evs.length ac, .slice ra evs.length rc, .int .i64 k] W fun r w' => r = .returned (.bool (cfM evs aps rps k)) ∧ Below W.heap.size W w') := by
    intro W hb k hk
    obtain ⟨eg, rfl, he⟩ := hev (by omega)
    obtain ⟨ag, rfl, ha⟩ := hap (by omega)
    obtain ⟨rg, rfl, hr⟩ := hrp (by omega)
    exact conflictAt_any aps rps k hk hla hlr eg ec ag ac rg rc W (he.kept hb) (ha.kept hb) (hr.kept hb) hl
  have H37 : Hid (∀ W, Below w.heap.size w W → ∀ (k : Nat) e, evs[k]? = some e → Calls Try.prog 37 #[.slice ea evs.length ec, .int .i64 k] W fun r w' => r = .returned (.bool (anyB (chP evs e) k)) ∧ Below W.heap.size W w') := by
    intro W hb k e he
    have hk := (List.getElem?_eq_some_iff.1 he).1
    obtain ⟨eg, rfl, hE⟩ := hev (by omega)
    exact lender_any k e he eg ec W (hE.kept hb) hl
  have HEV : Hid (0 < evs.length → ∃ eg, ea = some ⟨eg, 0, none⟩ ∧ EvRow w eg evs) := hev
  clear hev hap hrp hla hlr
  obtain ⟨m, hm⟩ : ∃ m, evs.length = m := ⟨_, rfl⟩
  rw [hm] at H36 H37 HEV hl ⊢
  have HM : Hid (evs.length = m) := hm
  clear hm
  have HR0 : Hid (RepSt w w.heap.size 0 0 ((w.alloc (.cells (rep8 0 0) 39)).alloc (.cells (rep8 0 0) 39))) := by
    refine ⟨((Below.refl _ _).alloc (Nat.le_refl _) _).alloc (by simp) _, ?_, ?_⟩
    · rw [Below.heap_alloc _ _ _ (by simp)]; exact heap_at _ _ rfl
    · exact heap_at _ _ (by simp)
  go_enter Try.func25, Try.ntmps25
  go_wp2
  go_loopw [8] (fun j W => ∃ k : Nat, k ≤ m ∧ j = .int .i64 k ∧ Hid (RepSt w w.heap.size (cnt (cfM evs aps rps) k) (cnt (chM evs) k) W)) (fun j _ => m - (intOf j).toNat)
  case atStart => exact ⟨0, Nat.zero_le _, rfl, HR0⟩
  case round =>
    clear HR0
    obtain ⟨k, hk, rfl, HS⟩ := hrel
    by_cases hlt : k < m
    · obtain ⟨e, he⟩ : ∃ e, evs[k]? = some e := ⟨evs[k]'(by rw [HM.out]; exact hlt), by simp⟩
      have hbw : Below w.heap.size w wr := HS.out.below
      obtain ⟨eg, rfl, hev⟩ := HEV.out (by omega)
      have HE8 : Hid (∀ W, Below w.heap.size w W → Ev8 W eg (k * 8) e) := fun W hb => EvRow.at (EvRow.kept hev hb) he
      have hcc := cnt_le (cfM evs aps rps) k
      have hch := cnt_le (chM evs) k
      have HC1 : Hid (cnt (cfM evs aps rps) (k + 1) = cnt (cfM evs aps rps) k + if cfM evs aps rps k then 1 else 0) := rfl
      have HC2 : Hid (cnt (chM evs) (k + 1) = cnt (chM evs) k + if (e.bor && anyB (chP evs e) k) then 1 else 0) := by
        show cnt (chM evs) k + (if chM evs k then 1 else 0) = _
        rw [show chM evs k = (e.bor && anyB (chP evs e) k) by unfold chM; rw [he]]
      have H37' : Hid (∀ W, Below w.heap.size w W → Calls Try.prog 37 #[.slice (some ⟨eg, 0, none⟩) m ec, .int .i64 k] W fun r w' => r = .returned (.bool (anyB (chP evs e) k)) ∧ Below W.heap.size W w') := fun W hb => H37.out W hb k e he
      obtain ⟨c, hce⟩ : ∃ c, cnt (cfM evs aps rps) k = c := ⟨_, rfl⟩
      obtain ⟨d, hde⟩ : ∃ d, cnt (chM evs) k = d := ⟨_, rfl⟩
      rw [hce] at HS HC1 hcc
      rw [hde] at HS HC2 hch
      obtain ⟨B, hB⟩ : ∃ B, w.heap.size = B := ⟨_, rfl⟩
      have hHB : Hid (w.heap.size = B) := hB
      rw [hB] at HS hbw H37' HE8 ⊢
      clear he hev hce hde hB
      go_wp2_with fail
      refine Calls.mono (H36.out wr (by rw [hHB.out]; exact hbw) k hlt) ?_
      rintro r w2 ⟨rfl, hb2⟩
      have HS2 : Hid (RepSt w B c d w2) := HS.out.kept hb2
      clear hb2 HS hbw
      obtain ⟨cf, hcf⟩ : ∃ b, cfM evs aps rps k = b := ⟨_, rfl⟩
      rw [hcf] at HC1 ⊢
      clear hcf
      have hcur := HS2.out.cur
      have g1 : w2.cell? ⟨B + 1, 1, none⟩ = some (.int .i64 c) := cell_of_block hcur rfl
      have f1 := frozen_of_block hcur
      have hl1 : B + 1 < w2.heap.size := lt_of_cell g1
      clear hcur
      go_upto_if 20 with fail
      go_cut [8] (fun v W => v = .int .i64 k ∧ Hid (RepSt w B (cnt (cfM evs aps rps) (k + 1) : Nat) d W))
      case first =>
        cases cf
        · go_wp2
          go_meet
          case rel => exact ⟨rfl, by rw [HC1.out]; exact HS2⟩
        · go_wp2
          go_meet
          case rel => exact ⟨rfl, by rw [HC1.out]; exact HS2.out.store1 _⟩
      case rest =>
      obtain ⟨rfl, HS3⟩ := hcut
      clear HS2 g1 hl1 HC1
      obtain ⟨c', hc'⟩ : ∃ c', cnt (cfM evs aps rps) (k + 1) = c' := ⟨_, rfl⟩
      rw [hc'] at HS3
      have HCC : Hid (cnt (cfM evs aps rps) (k + 1) = c') := hc'
      clear hc'
      obtain ⟨_, _, _, _, _, c5, _, _⟩ := HE8.out wc (by have := HS3.out.below; exact this)
      have hlg : eg < wc.heap.size := lt_of_cell c5
      have hcur := HS3.out.cur
      have g5 : wc.cell? ⟨B + 1, 5, none⟩ = some (.int .i64 d) := cell_of_block hcur rfl
      have hl5 : B + 1 < wc.heap.size := lt_of_cell g5
      clear hcur
      obtain ⟨bo, hbo⟩ : ∃ bo, e.bor = bo := ⟨_, rfl⟩
      rw [hbo] at c5 HC2
      clear hbo
      cases bo
      · have HC2 : Hid (cnt (chM evs) (k + 1) = d) := HC2
        go_wp2
        exact ⟨⟨k + 1, hlt, by go_num, by rw [HC2.out, HCC.out]; exact HS3⟩, by simp [intOf]; omega⟩
      · go_wp2_with fail
        refine Calls.mono (H37'.out wc HS3.out.below) ?_
        rintro r w4 ⟨rfl, hb4⟩
        have HS4 : Hid (RepSt w B c' d w4) := HS3.out.kept hb4
        clear hb4 g5 hl5
        have hcur := HS4.out.cur
        have g5 : w4.cell? ⟨B + 1, 5, none⟩ = some (.int .i64 d) := cell_of_block hcur rfl
        have f5 := frozen_of_block hcur
        have hl5 : B + 1 < w4.heap.size := lt_of_cell g5
        clear hcur
        obtain ⟨ch, hch'⟩ : ∃ b, anyB (chP evs e) k = b := ⟨_, rfl⟩
        rw [hch'] at HC2 ⊢
        clear hch'
        cases ch
        · have HC2 : Hid (cnt (chM evs) (k + 1) = d) := HC2
          go_wp2
          exact ⟨⟨k + 1, hlt, by go_num, by rw [HC2.out, HCC.out]; exact HS4⟩, by simp [intOf]; omega⟩
        · have HC2 : Hid (cnt (chM evs) (k + 1) = d + 1) := HC2
          go_wp2
          exact ⟨⟨k + 1, hlt, by go_num, by rw [HC2.out, HCC.out]; exact HS4.out.store5 _⟩, by simp [intOf]; omega⟩
    · have hkm : k = m := by omega
      subst hkm
      obtain ⟨c, hce⟩ : ∃ c, cnt (cfM evs aps rps) k = c := ⟨_, rfl⟩
      obtain ⟨d, hde⟩ : ∃ d, cnt (chM evs) k = d := ⟨_, rfl⟩
      rw [hce, hde] at HS
      have HCE : Hid (cnt (cfM evs aps rps) k = c) := hce
      have HDE : Hid (cnt (chM evs) k = d) := hde
      clear hce hde
      obtain ⟨B, hB⟩ : ∃ B, w.heap.size = B := ⟨_, rfl⟩
      have hHB : Hid (w.heap.size = B) := hB
      rw [hB] at HS ⊢
      clear hB
      have hcur := HS.out.cur
      have g0 : wr.cell? ⟨B + 1, 0, none⟩ = some (.int .i64 0) := cell_of_block hcur rfl
      have g1 : wr.cell? ⟨B + 1, 1, none⟩ = some (.int .i64 c) := cell_of_block hcur rfl
      have g2 : wr.cell? ⟨B + 1, 2, none⟩ = some (.int .i64 0) := cell_of_block hcur rfl
      have g3 : wr.cell? ⟨B + 1, 3, none⟩ = some (.int .i64 0) := cell_of_block hcur rfl
      have g4 : wr.cell? ⟨B + 1, 4, none⟩ = some (.int .i64 0) := cell_of_block hcur rfl
      have g5 : wr.cell? ⟨B + 1, 5, none⟩ = some (.int .i64 d) := cell_of_block hcur rfl
      have g6 : wr.cell? ⟨B + 1, 6, none⟩ = some (.int .i64 0) := cell_of_block hcur rfl
      have g7 : wr.cell? ⟨B + 1, 7, none⟩ = some (.int .i64 0) := cell_of_block hcur rfl
      have hl1 : B + 1 < wr.heap.size := lt_of_cell g1
      have hres := HS.out.res
      have r0 : wr.cell? ⟨B, 0, none⟩ = some (.int .i64 0) := cell_of_block hres rfl
      have r1 : wr.cell? ⟨B, 1, none⟩ = some (.int .i64 0) := cell_of_block hres rfl
      have r2 : wr.cell? ⟨B, 2, none⟩ = some (.int .i64 0) := cell_of_block hres rfl
      have r3 : wr.cell? ⟨B, 3, none⟩ = some (.int .i64 0) := cell_of_block hres rfl
      have r4 : wr.cell? ⟨B, 4, none⟩ = some (.int .i64 0) := cell_of_block hres rfl
      have r5 : wr.cell? ⟨B, 5, none⟩ = some (.int .i64 0) := cell_of_block hres rfl
      have r6 : wr.cell? ⟨B, 6, none⟩ = some (.int .i64 0) := cell_of_block hres rfl
      have r7 : wr.cell? ⟨B, 7, none⟩ = some (.int .i64 0) := cell_of_block hres rfl
      have fr := frozen_of_block hres
      have hlr : B < wr.heap.size := lt_of_cell r0
      clear hcur hres
      go_wp2
      exact bodyPost_ret (v := .agg (rep8 c d)) (by simp [results, Try.results25, go_sem, r0, r1, r2, r3, r4, r5, r6, r7]) rfl ⟨by rw [HCE.out, HDE.out], by rw [hHB.out]; exact (((((((HS.out.below.setCell (Nat.le_refl _) _).setCell (Nat.le_refl _) _).setCell (Nat.le_refl _) _).setCell (Nat.le_refl _) _).setCell (Nat.le_refl _) _).setCell (Nat.le_refl _) _).setCell (Nat.le_refl _) _).setCell (Nat.le_refl _) _⟩
end
end Go.Proofs.Qxb6604372a
