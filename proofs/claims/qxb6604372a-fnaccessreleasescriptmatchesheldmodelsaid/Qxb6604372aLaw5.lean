/-
  The walk of FnAccessScriptMatchesHistoryModel.
-/
import Derived.Test.Qxb6604372aReport
namespace Go.Proofs.Qxb6604372a
open Go.ChangeShapes Go.WideShapes Go.ChangeAt Go.RowKit

/-- A row whose first k places hold f. -/
def Fill (w : World) (g len : Nat) (f : Nat → Int) (k : Nat) : Prop := ∃ cur : Array Value, w.heap[g]? = some (.cells cur 3 (0, 0)) ∧ cur.size = len ∧ ∀ j, j < k → cur[j]? = some (.int .i64 (f j))
theorem Fill.start {w : World} {g len : Nat} {f : Nat → Int} {cur : Array Value} (h : w.heap[g]? = some (.cells cur 3 (0, 0))) (hs : cur.size = len * 1) : Fill w g len f 0 := ⟨cur, h, by simpa using hs, fun j hj => absurd hj (Nat.not_lt_zero _)⟩
theorem Fill.store {w : World} {g len : Nat} {f : Nat → Int} {k : Nat} (h : Fill w g len f k) (hk : k < len) : Fill (w.setCell ⟨g, k, none⟩ (.int .i64 (f k))) g len f (k + 1) := by
  obtain ⟨cur, hh, hs, hc⟩ := h
  refine ⟨_, heap_setCell_same hh _ _, by simpa using hs, fun j hj => ?_⟩
  rw [Array.getElem?_setIfInBounds]
  by_cases e : k = j
  · subst e; rw [if_pos rfl, if_pos (by omega)]
  · rw [if_neg e]; exact hc j (by omega)
theorem Fill.other {w : World} {g g' len o : Nat} {f : Nat → Int} {k : Nat} (h : Fill w g len f k) (hg : g ≠ g') (v : Value) : Fill (w.setCell ⟨g', o, none⟩ v) g len f k := by
  obtain ⟨cur, hh, hs, hc⟩ := h
  exact ⟨cur, by rw [Below.heap_setCell _ _ _ _ hg]; exact hh, hs, hc⟩
theorem Fill.kept {w w' : World} {g len : Nat} {f : Nat → Int} {k : Nat} (h : Fill w g len f k) (hb : Below w.heap.size w w') : Fill w' g len f k := by
  obtain ⟨cur, hh, hs, hc⟩ := h
  exact ⟨cur, by rw [hb.block _ (Array.getElem?_eq_some_iff.1 hh).1]; exact hh, hs, hc⟩
theorem Fill.row {w : World} {g len : Nat} {f : Nat → Int} (h : Fill w g len f len) : IntRow w g ((List.range len).map f) := by
  obtain ⟨cur, hh, hs, hc⟩ := h
  intro i y hi
  rw [List.getElem?_map] at hi
  by_cases e : i < len
  · rw [List.getElem?_range e] at hi
    cases hi
    exact cell_of_block hh (hc i e)
  · rw [List.getElem?_eq_none (by simp; omega)] at hi
    cases hi
theorem mapRange_get {len : Nat} {f : Nat → Int} {j : Nat} {x : Int} (h : ((List.range len).map f)[j]? = some x) : j < len ∧ x = f j := by
  rw [List.getElem?_map] at h
  by_cases e : j < len
  · rw [List.getElem?_range e] at h
    cases h
    exact ⟨e, rfl⟩
  · rw [List.getElem?_eq_none (by simp; omega)] at h
    cases h
def accF : Nat → Int := fun j => (j : Int)
def relF : Nat → Int := fun _ => -1
theorem cnts5 (evs : List Ev) (n : Nat) (hn : evs.length = n) : cnt (cfA evs r0) n = cnt (cfM evs ((List.range n).map accF) ((List.range n).map relF)) n ∧ cnt (chA evs r0) n = cnt (chM evs) n := by
  constructor
  · refine cnt_congr n fun j hj => cfA_eq evs _ _ r0 j (by omega) (by simp [hn]) (by simp [hn]) ?_
    intro i r a hi h1 h2
    obtain ⟨_, rfl⟩ := mapRange_get h1
    rfl
  · exact cnt_congr n fun j _ => chA_eq evs r0 j
theorem r0_range (n : Nat) : ∀ (j : Nat) x, ((List.range n).map relF)[j]? = some x → (x = -1 ↔ r0 j = false) := by
  intro j x h
  obtain ⟨_, rfl⟩ := mapRange_get h
  simp [relF, r0]
attribute [local go_sem ↓] equal39_lit
set_option maxRecDepth 100000 in
set_option maxHeartbeats 4000000 in
theorem law5_small (a : Option Addr) (len cap : Nat) (evs : List Ev) (w : World) (h : ElemsAt 8 evCells w a len evs) (hl : len ≤ 1024) :
    Calls Try.prog 5 #[.slice a len cap] w fun e w' => e = .returned (.bool true) ∧ Below w.heap.size w w' := by
  obtain ⟨i0, hi, hz0, hz1, hz2⟩ := info_parts info3'
  have HK : Hid (evs.length = len) := h.1
  have HEL : Hid (ElemsAt 8 evCells w a len evs) := h
  have hd : decide ((1024 : Int) < (len : Int)) = false := by simp; omega
  clear h
  go_enter Try.func5, Try.ntmps5
  go_wp2_with fail
  refine (zzBytes24 a len cap _ (by unfold maxLen; omega)).mono ?_
  rintro r w1 ⟨rfl, rfl⟩
  have hdd : decide (len ≤ 1048576) = true := by simp; omega
  rw [hdd]
  clear hdd
  go_wp2_with fail
  refine (copyAcc_any a len cap evs _ HEL.out hl).mono ?_
  rintro r w2 ⟨v, rfl, hown, hb2⟩
  obtain ⟨ea, ec, rfl, hev⟩ := evRow_of_owns hown HK.out
  have HEV : Hid (0 < evs.length → ∃ g, ea = some ⟨g, 0, none⟩ ∧ EvRow w2 g evs) := hev
  have HB2 : Hid (Below w1.heap.size w1 w2) := hb2
  clear hown hev hb2 HEL
  go_wp2_with (at_make; first
    | (refine wpList_make_full _ rfl _ _ 33 rfl w2.heap.size 3 i0 (.int .i64 0) 1 Try.underlying33 hi hz0 hz1 .i64 .i64 _ _ len rfl rfl rfl rfl (by rw [hz2]; omega) (by unfold maxLen; omega) (Nat.le_refl _) ?_; intro w3 hown hgrow)
    | (refine wpList_make_full _ rfl _ _ 33 rfl w3.heap.size 3 i0 (.int .i64 0) 1 Try.underlying33 hi hz0 hz1 .i64 .i64 _ _ len rfl rfl rfl rfl (by rw [hz2]; omega) (by unfold maxLen; omega) (Nat.le_refl _) ?_; intro w4 hown2 hgrow2))
  have hst : Fill w4 w2.heap.size len accF 0 ∧ Fill w4 w3.heap.size len relF 0 ∧ Below w2.heap.size w2 w4 ∧ w2.heap.size < w3.heap.size := by
    have hb3 : Below w2.heap.size w2 w3 := (Below.refl _ _).grown hgrow (Nat.le_refl _) (by simp)
    have hb4 : Below w3.heap.size w3 w4 := (Below.refl _ _).grown hgrow2 (Nat.le_refl _) (by simp)
    have h1 : Fill w3 w2.heap.size len accF 0 := by
      rcases hown.2 with ⟨e, _⟩ | ⟨g, cp, cur, e, _, hh, _, _, hs, _⟩
      · cases e
      · cases e; exact Fill.start hh hs
    refine ⟨h1.kept hb4, ?_, hb3.trans (hb4.mono hb3.size), ?_⟩
    · rcases hown2.2 with ⟨e, _⟩ | ⟨g, cp, cur, e, _, hh, _, _, hs, _⟩
      · cases e
      · cases e; exact Fill.start hh hs
    · obtain ⟨cur, hh, _⟩ := h1
      exact (Array.getElem?_eq_some_iff.1 hh).1
  obtain ⟨hst1, hst2, hst3, hgg⟩ := hst
  have HST : Hid (Fill w4 w2.heap.size len accF 0 ∧ Fill w4 w3.heap.size len relF 0 ∧ Below w2.heap.size w2 w4) := ⟨hst1, hst2, hst3⟩
  clear hown hgrow hown2 hgrow2 hst1 hst2 hst3 hi hz0 hz1 hz2
  obtain ⟨rg, hrg⟩ : ∃ rg, w3.heap.size = rg := ⟨_, rfl⟩
  rw [hrg] at HST hgg ⊢
  clear hrg
  go_loopw [6] (fun i W => ∃ k : Nat, k ≤ len ∧ i = .int .i64 k ∧ Hid (Fill W w2.heap.size len accF k ∧ Fill W rg len relF k ∧ Below w2.heap.size w2 W)) (fun i _ => len - (intOf i).toNat)
  case atStart => exact ⟨0, Nat.zero_le _, rfl, HST⟩
  case round =>
    clear HST
    obtain ⟨k, hk, rfl, HF⟩ := hrel
    by_cases hlt : k < len
    · obtain ⟨cur, hh, hs, _⟩ := HF.out.1
      obtain ⟨cur2, hh2, hs2, _⟩ := HF.out.2.1
      obtain ⟨v0, g1⟩ := cell_some_of_block hh (o := k) (by omega)
      obtain ⟨v1, g2⟩ := cell_some_of_block hh2 (o := k) (by omega)
      have hf := frozen_of_block hh
      have hf2 := frozen_of_block hh2
      have hlw : w2.heap.size < wr.heap.size := lt_of_cell g1
      have hlw2 : rg < wr.heap.size := lt_of_cell g2
      have hne : ¬ w2.heap.size = rg := by omega
      have hne' : ¬ rg = w2.heap.size := by omega
      clear hh hs hh2 hs2
      go_wp2
      exact ⟨⟨k + 1, by omega, by go_num, (HF.out.1.store hlt).other hne _, (HF.out.2.1.other hne' _).store hlt, (HF.out.2.2.setCell (Nat.le_refl _) _).setCell (by show _ ≤ rg; omega) _⟩, by simp [intOf]; omega⟩
    · have hkl : k = len := by omega
      subst hkl
      have HRP : Hid (IntRow wr rg ((List.range k).map relF)) := HF.out.2.1.row
      have HAP : Hid (IntRow wr w2.heap.size ((List.range k).map accF)) := HF.out.1.row
      have HEV3 : Hid (0 < evs.length → ∃ g, ea = some ⟨g, 0, none⟩ ∧ EvRow wr g evs) := fun h0 => by
        obtain ⟨g, e, hg⟩ := HEV.out h0
        exact ⟨g, e, hg.kept HF.out.2.2⟩
      have HB3 : Hid (Below w1.heap.size w1 wr) := HB2.out.trans (HF.out.2.2.mono HB2.out.size)
      clear HF HEV HB2 hlt hk
      generalize w2.heap.size = ag at *
      go_wp2_with fail
      refine (newAuditor_any wr (base := wr.heap.size) (Nat.le_refl _)).mono ?_
      rintro r w4 ⟨L0, rfl, hinv, hb4, hc0, hp0, hr0, _⟩
      have HS : Hid (Scr wr L0.A evs 0 L0 w4) := Scr.start hinv hb4 hc0 hp0 hr0
      clear hinv hb4 hc0 hp0 hr0
      generalize hAA : L0.A = A at *
      clear hAA
      obtain ⟨W0, hW0⟩ : ∃ W0, W0 = wr := ⟨_, rfl⟩
      subst hW0
      go_wp2
      go_loopw [8] (fun i W => ∃ (j : Nat) (L : Lay), j ≤ k ∧ i = .int .i64 j ∧ Hid (Scr W0 A evs j L W)) (fun i _ => k - (intOf i).toNat)
      case atStart => exact ⟨0, L0, Nat.zero_le _, rfl, HS⟩
      case round =>
        clear HS
        obtain ⟨j, L, hj, rfl, HS⟩ := hrel
        by_cases hjlt : j < k
        · obtain ⟨e, he⟩ : ∃ e, evs[j]? = some e := ⟨evs[j]'(by rw [HK.out]; exact hjlt), by simp⟩
          obtain ⟨eg, hea, hev⟩ := HEV3.out (by rw [HK.out]; omega)
          subst hea
          obtain ⟨c0, c1, c2, c3, c4, c5, c6, c7⟩ := EvRow.at (EvRow.kept hev HS.out.below) he
          have hlg : eg < wr.heap.size := lt_of_cell c0
          have HE : Hid _ := he
          clear he hev
          go_wp2_with fail
          refine (doAccess_scr HS.out HE.out (by rw [HK.out]; exact hl)).mono ?_
          rintro r w5 ⟨rfl, L', HS'⟩
          have HS' : Hid (Scr W0 A evs (j + 1) L' w5) := HS'
          clear HS HE
          go_wp2
          go_roundw
          case rel => exact ⟨j + 1, L', by omega, by go_num, HS'⟩
          case measure => simp [intOf]; omega
        · have hjk : j = k := by omega
          subst hjk
          have HS1 : Hid (ScrSt W0.heap.size evs r0 (cnt (cfA evs r0) j) (cnt (chA evs r0) j) [] L wr) := HS.out.all (by rw [HK.out]; omega)
          have HA1 : Hid (L.A = A) := HS.out.A
          have HB5 : Hid (Below W0.heap.size W0 wr) := HS.out.below
          have HC : Hid (cnt (cfA evs r0) j = cnt (cfM evs ((List.range j).map accF) ((List.range j).map relF)) j ∧ cnt (chA evs r0) j = cnt (chM evs) j) := cnts5 evs j HK.out
          have H25 : Hid (∀ W, Below W0.heap.size W0 W → Calls Try.prog 25 #[.slice ea j ec, .slice (some ⟨ag, 0, none⟩) j j, .slice (some ⟨rg, 0, none⟩) j j] W fun r w' => r = .returned (.agg (rep8 (cnt (cfA evs r0) j) (cnt (chA evs r0) j))) ∧ Below W.heap.size W w') := by
            intro W hb
            have := modelReport_any (evs := evs) ((List.range j).map accF) ((List.range j).map relF) (by simp [HK.out]) (by simp [HK.out]) ea (some ⟨ag, 0, none⟩) (some ⟨rg, 0, none⟩) ec j j W (fun h0 => by obtain ⟨g, e, hg⟩ := HEV3.out h0; exact ⟨g, e, hg.kept hb⟩) (fun _ => ⟨ag, rfl, IntRow.kept HAP.out hb⟩) (fun _ => ⟨rg, rfl, IntRow.kept HRP.out hb⟩) (by rw [HK.out]; exact hl)
            rw [HK.out, ← HC.out.1, ← HC.out.2] at this
            exact this
          have H23 : Hid (∀ W, Below W0.heap.size W0 W → ScrSt W0.heap.size evs r0 (cnt (cfA evs r0) j) (cnt (chA evs r0) j) [] L W → Calls Try.prog 23 #[pv A, .slice ea j ec, .slice (some ⟨rg, 0, none⟩) j j, .int .i64 0] W fun r w' => r = .returned (.bool true) ∧ Below W.heap.size W w') := by
            intro W hb hs
            have := stateMatches_any ((List.range j).map relF) ea (some ⟨rg, 0, none⟩) ec j A W hs HA1.out (fun h0 => by obtain ⟨g, e, hg⟩ := HEV3.out h0; exact ⟨g, e, hg.kept hb⟩) (fun _ => ⟨rg, rfl, IntRow.kept HRP.out hb⟩) (by rw [HK.out]; simp) (r0_range j) (by rw [HK.out]; exact hl) (by simp)
            rw [HK.out] at this
            exact this
          have H16 : Hid (∀ W, ScrSt W0.heap.size evs r0 (cnt (cfA evs r0) j) (cnt (chA evs r0) j) [] L W → Calls Try.prog 16 #[pv A] W fun e w' => e = .returned (.agg (rep8 (cnt (cfA evs r0) j) (cnt (chA evs r0) j))) ∧ Below W.heap.size W w') := by
            intro W h; have := report_any W h.inv; rw [HA1.out] at this; exact this
          obtain ⟨lc, hlc⟩ : ∃ x : Int, (cnt (cfA evs r0) j : Int) = x := ⟨_, rfl⟩
          obtain ⟨cv, hcv⟩ : ∃ x : Int, (cnt (chA evs r0) j : Int) = x := ⟨_, rfl⟩
          rw [hlc, hcv] at HS1 H25 H23 H16
          clear hlc hcv HS hjlt hj HC
          go_wp2_with fail
          refine (H16.out wr HS1.out).mono ?_
          rintro r w5 ⟨rfl, hb5⟩
          have HS1 : Hid (ScrSt W0.heap.size evs r0 lc cv [] L w5) := HS1.out.below hb5
          have HB5 : Hid (Below W0.heap.size W0 w5) := HB5.out.trans (hb5.mono HB5.out.size)
          clear hb5
          go_wp2_with fail
          refine (H25.out w5 HB5.out).mono ?_
          rintro r w6 ⟨rfl, hb6⟩
          have HS1 : Hid (ScrSt W0.heap.size evs r0 lc cv [] L w6) := HS1.out.below hb6
          have HB5 : Hid (Below W0.heap.size W0 w6) := HB5.out.trans (hb6.mono HB5.out.size)
          clear hb6
          have hgd := guard39
          go_wp2_with fail
          refine (H23.out w6 HB5.out HS1.out).mono ?_
          rintro r w7 ⟨rfl, hb7⟩
          have HB7 : Hid (Below W0.heap.size W0 w7) := HB5.out.trans (hb7.mono HB5.out.size)
          clear hb7
          go_wp2
          go_ret
          exact ⟨rfl, HB3.out.trans (HB7.out.mono HB3.out.size)⟩
end Go.Proofs.Qxb6604372a
