/-
  The walk of FnCohortAfterAccessesListsThem.
-/
import Derived.Test.Qxb6604372aPrep
import Derived.Test.Qxb6604372aStateM
namespace Go.Proofs.Qxb6604372a
open Go.ChangeShapes Go.WideShapes Go.ChangeAt Go.RowKit

attribute [local go_sem ↓] equal39_lit
set_option maxRecDepth 100000 in
set_option maxHeartbeats 4000000 in
theorem law4_small (a : Option Addr) (len cap : Nat) (evs : List Ev) (t n st : Int) (w : World) (h : ElemsAt 8 evCells w a len evs) (hl : len ≤ 1024) :
    Calls Try.prog 4 #[.slice a len cap, .agg #[.int .i64 t, .int .i64 n, .int .i64 st]] w fun e w' => e = .returned (.bool true) ∧ Below w.heap.size w w' := by
  obtain ⟨i0, hi, hz0, hz1, hz2⟩ := info_parts info3'
  have hb0 : Below w.heap.size w (w.alloc (.cells #[.int .i64 t, .int .i64 n, .int .i64 st] 29)) := (Below.refl _ _).alloc (Nat.le_refl _) _
  have HK : Hid (evs.length = len) := h.1
  have HB0 : Hid (Below w.heap.size w (w.alloc (.cells #[.int .i64 t, .int .i64 n, .int .i64 st] 29))) := hb0
  have HEL : Hid (ElemsAt 8 evCells (w.alloc (.cells #[.int .i64 t, .int .i64 n, .int .i64 st] 29)) a len evs) := h.kept hb0
  have hd : decide ((1024 : Int) < (len : Int)) = false := by simp; omega
  clear h hb0
  go_enter Try.func4, Try.ntmps4
  go_wp2_with fail
  refine (zzBytes20 a len cap _ _ _ _ (by unfold maxLen; omega)).mono ?_
  rintro r w1 ⟨rfl, hb1⟩
  have hdd : decide (len ≤ 1048576) = true := by simp; omega
  rw [hdd]
  have HEL : Hid (ElemsAt 8 evCells w1 a len evs) := HEL.out.kept hb1
  have HB1 : Hid (Below w.heap.size w w1) := HB0.out.trans (hb1.mono HB0.out.size)
  have HQ : Hid (w1.heap[w.heap.size]? = some (.cells #[.int .i64 t, .int .i64 n, .int .i64 st] 29)) := by show _ = _; rw [hb1.block _ (by simp)]; exact heap_at _ _ rfl
  clear hb1 hdd HB0
  generalize hQe : w.heap.size = Q at *
  have HQE : Hid (w.heap.size = Q) := hQe
  clear hQe
  go_wp2_with fail
  refine (copyAcc_any a len cap evs _ HEL.out hl).mono ?_
  rintro r w2 ⟨v, rfl, hown, hb2⟩
  obtain ⟨ea, ec, rfl, hev⟩ := evRow_of_owns hown HK.out
  have HEV : Hid (0 < evs.length → ∃ g, ea = some ⟨g, 0, none⟩ ∧ EvRow w2 g evs) := hev
  have HQ2 : Hid (w2.heap[Q]? = some (.cells #[.int .i64 t, .int .i64 n, .int .i64 st] 29)) := by show _ = _; rw [hb2.block _ (Array.getElem?_eq_some_iff.1 HQ.out).1]; exact HQ.out
  have HB2 : Hid (Below Q w w2) := HB1.out.trans (hb2.mono (by have := (Array.getElem?_eq_some_iff.1 HQ.out).1; omega))
  clear hown hev hb2 HQ HB1 HEL
  go_wp2_with (at_make; refine wpList_make_full _ rfl _ _ 33 rfl w2.heap.size 3 i0 (.int .i64 0) 1 Try.underlying33 hi hz0 hz1 .i64 .i64 _ _ len rfl rfl rfl rfl (by rw [hz2]; omega) (by unfold maxLen; omega) (Nat.le_refl _) ?_; intro w3 hown hgrow)
  have hst : Filled w3 w2.heap.size len (-1) 0 ∧ Below w2.heap.size w2 w3 := by
    refine ⟨?_, (Below.refl _ _).grown hgrow (Nat.le_refl _) (by simp)⟩
    rcases hown.2 with ⟨e, _⟩ | ⟨g, cp, cur, e, _, hh, _, _, hs, _⟩
    · cases e
    · cases e; exact Filled.start hh hs
  have HST : Hid (Filled w3 w2.heap.size len (-1) 0 ∧ Below w2.heap.size w2 w3) := hst
  clear hown hgrow hst hi hz0 hz1 hz2
  go_loopw [6] (fun i W => ∃ k : Nat, k ≤ len ∧ i = .int .i64 k ∧ Hid (Filled W w2.heap.size len (-1) k ∧ Below w2.heap.size w2 W)) (fun i _ => len - (intOf i).toNat)
  case atStart => exact ⟨0, Nat.zero_le _, rfl, HST⟩
  case round =>
    clear HST
    obtain ⟨k, hk, rfl, HF⟩ := hrel
    by_cases hlt : k < len
    · obtain ⟨cur, hh, hs, _⟩ := HF.out.1
      obtain ⟨v0, g1⟩ := cell_some_of_block hh (o := k) (by omega)
      have hf := frozen_of_block hh
      have hlw : w2.heap.size < wr.heap.size := lt_of_cell g1
      clear hh hs
      go_wp2
      exact ⟨⟨k + 1, by omega, by go_num, HF.out.1.store hlt, HF.out.2.setCell (Nat.le_refl _) _⟩, by simp [intOf]; omega⟩
    · have hkl : k = len := by omega
      subst hkl
      have HRP : Hid (IntRow wr w2.heap.size (List.replicate k (-1))) := HF.out.1.row
      have HEV3 : Hid (0 < evs.length → ∃ g, ea = some ⟨g, 0, none⟩ ∧ EvRow wr g evs) := fun h0 => by
        obtain ⟨g, e, hg⟩ := HEV.out h0
        exact ⟨g, e, hg.kept HF.out.2⟩
      have HQ3 : Hid (wr.heap[Q]? = some (.cells #[.int .i64 t, .int .i64 n, .int .i64 st] 29)) := by show _ = _; rw [HF.out.2.block _ (Array.getElem?_eq_some_iff.1 HQ2.out).1]; exact HQ2.out
      have HB3 : Hid (Below Q w wr) := HB2.out.trans (HF.out.2.mono (by have := (Array.getElem?_eq_some_iff.1 HQ2.out).1; omega))
      clear HF HEV HQ2 HB2 hlt hk
      generalize w2.heap.size = rg at *
      go_wp2_with fail
      refine (newAuditor_any wr (base := wr.heap.size) (Nat.le_refl _)).mono ?_
      rintro r w4 ⟨L0, rfl, hinv, hb4, hc0, hp0, hr0, _⟩
      have HS : Hid (Scr wr L0.A evs 0 L0 w4) := Scr.start hinv hb4 hc0 hp0 hr0
      clear hinv hb4 hc0 hp0 hr0
      generalize hAA : L0.A = A at *
      clear hAA
      obtain ⟨W0, hW0⟩ : ∃ W0, W0 = wr := ⟨_, rfl⟩
      subst hW0
      go_wp2
      go_loopw [8] (fun i W => ∃ (j : Nat) (L : Lay), j ≤ k ∧ i = .int .i64 j ∧ Hid (Scr W0 A evs j L W)) (fun i _ => k - (intOf i).toNat)
      case atStart => exact ⟨0, L0, Nat.zero_le _, rfl, HS⟩
      case round =>
        clear HS
        obtain ⟨j, L, hj, rfl, HS⟩ := hrel
        by_cases hjlt : j < k
        · obtain ⟨e, he⟩ : ∃ e, evs[j]? = some e := ⟨evs[j]'(by rw [HK.out]; exact hjlt), by simp⟩
          obtain ⟨eg, hea, hev⟩ := HEV3.out (by rw [HK.out]; omega)
          subst hea
          obtain ⟨c0, c1, c2, c3, c4, c5, c6, c7⟩ := EvRow.at (EvRow.kept hev HS.out.below) he
          have hlg : eg < wr.heap.size := lt_of_cell c0
          have HE : Hid _ := he
          clear he hev
          go_wp2_with fail
          refine (doAccess_scr HS.out HE.out (by rw [HK.out]; exact hl)).mono ?_
          rintro r w5 ⟨rfl, L', HS'⟩
          have HS' : Hid (Scr W0 A evs (j + 1) L' w5) := HS'
          clear HS HE
          go_wp2
          go_roundw
          case rel => exact ⟨j + 1, L', by omega, by go_num, HS'⟩
          case measure => simp [intOf]; omega
        · have hjk : j = k := by omega
          subst hjk
          have HS1 : Hid (ScrSt W0.heap.size evs r0 (cnt (cfA evs r0) j) (cnt (chA evs r0) j) [] L wr) := HS.out.all (by rw [HK.out]; omega)
          have HA1 : Hid (L.A = A) := HS.out.A
          have HB5 : Hid (Below W0.heap.size W0 wr) := HS.out.below
          obtain ⟨lc, hlc⟩ : ∃ x : Int, (cnt (cfA evs r0) j : Int) = x := ⟨_, rfl⟩
          obtain ⟨cv, hcv⟩ : ∃ x : Int, (cnt (chA evs r0) j : Int) = x := ⟨_, rfl⟩
          rw [hlc, hcv] at HS1
          clear hlc hcv HS hjlt hj
          have hrep : ∀ (L : Lay) (ex : List K3) (W : World), ScrSt W0.heap.size evs r0 lc cv ex L W → L.A = A → Calls Try.prog 16 #[pv A] W fun e w' => e = .returned (.agg #[.int .i64 0, .int .i64 lc, .int .i64 0, .int .i64 0, .int .i64 0, .int .i64 cv, .int .i64 0, .int .i64 0]) ∧ Below W.heap.size W w' := by
            intro L ex W h hA; subst hA; exact report_any W h.inv
          have HREP : Hid (∀ (L : Lay) (ex : List K3) (W : World), ScrSt W0.heap.size evs r0 lc cv ex L W → L.A = A → Calls Try.prog 16 #[pv A] W fun e w' => e = .returned (.agg #[.int .i64 0, .int .i64 lc, .int .i64 0, .int .i64 0, .int .i64 0, .int .i64 cv, .int .i64 0, .int .i64 0]) ∧ Below W.heap.size W w') := hrep
          clear hrep
          go_wp2_with fail
          refine (HREP.out L [] wr HS1.out HA1.out).mono ?_
          rintro r w5 ⟨rfl, hb5⟩
          have HS1 : Hid (ScrSt W0.heap.size evs r0 lc cv [] L w5) := HS1.out.below hb5
          have HB5 : Hid (Below W0.heap.size W0 w5) := HB5.out.trans (hb5.mono HB5.out.size)
          clear hb5
          have HRO : Hid (L.own w5.heap.size = none) := HS1.out.inv.fresh (Nat.le_refl _)
          go_wp2
          have HS1 : Hid (ScrSt W0.heap.size evs r0 lc cv [] L (w5.alloc (.cells #[.int .i64 0, .int .i64 lc, .int .i64 0, .int .i64 0, .int .i64 0, .int .i64 cv, .int .i64 0, .int .i64 0] 39))) := HS1.out.below ((Below.refl _ _).alloc (Nat.le_refl _) _)
          have HRB : Hid ((w5.alloc (.cells #[.int .i64 0, .int .i64 lc, .int .i64 0, .int .i64 0, .int .i64 0, .int .i64 cv, .int .i64 0, .int .i64 0] 39)).heap[w5.heap.size]? = some (.cells #[.int .i64 0, .int .i64 lc, .int .i64 0, .int .i64 0, .int .i64 0, .int .i64 cv, .int .i64 0, .int .i64 0] 39)) := heap_at _ _ rfl
          have HB5 : Hid (Below W0.heap.size W0 (w5.alloc (.cells #[.int .i64 0, .int .i64 lc, .int .i64 0, .int .i64 0, .int .i64 0, .int .i64 cv, .int .i64 0, .int .i64 0] 39))) := HB5.out.alloc HB5.out.size _
          obtain ⟨W1, hW1⟩ : ∃ W1, w5.alloc (.cells #[.int .i64 0, .int .i64 lc, .int .i64 0, .int .i64 0, .int .i64 0, .int .i64 cv, .int .i64 0, .int .i64 0] 39) = W1 := ⟨_, rfl⟩
          rw [hW1] at HS1 HB5 HRB ⊢
          clear hW1
          generalize w5.heap.size = RB at *
          have HQ4 : Hid (W1.heap[Q]? = some (.cells #[.int .i64 t, .int .i64 n, .int .i64 st] 29)) := by show _ = _; rw [HB5.out.block _ (Array.getElem?_eq_some_iff.1 HQ3.out).1]; exact HQ3.out
          have HEV4 : Hid (0 < evs.length → ∃ g, ea = some ⟨g, 0, none⟩ ∧ EvRow W1 g evs) := fun h0 => by
            obtain ⟨g, e, hg⟩ := HEV3.out h0
            exact ⟨g, e, hg.kept HB5.out⟩
          have HRP4 : Hid (IntRow W1 rg (List.replicate j (-1))) := IntRow.kept HRP.out HB5.out
          have HB6 : Hid (Below Q w W1) := HB3.out.trans (HB5.out.mono (by have := (Array.getElem?_eq_some_iff.1 HQ3.out).1; omega))
          go_loopw [10, 11] (fun s i W => ∃ k' : Nat, k' ≤ j ∧ i = .int .i64 k' ∧ s = .bool ((evs.take k').any (fun h => h.ck == (t, n, st))) ∧ Below W1.heap.size W1 W) (fun _ i _ => j - (intOf i).toNat)
          case atStart => exact ⟨0, Nat.zero_le _, rfl, rfl, Below.refl _ _⟩
          case round =>
            obtain ⟨k', hk', rfl, rfl, hbx⟩ := hrel
            obtain ⟨sn, hsn⟩ : ∃ b, (evs.take k').any (fun h => h.ck == (t, n, st)) = b := ⟨_, rfl⟩
            rw [hsn]
            by_cases hlt : k' < j
            · have hblk : wr.heap[Q]? = some (.cells #[.int .i64 t, .int .i64 n, .int .i64 st] 29) := by rw [hbx.block _ (Array.getElem?_eq_some_iff.1 HQ4.out).1]; exact HQ4.out
              have d0 : wr.cell? ⟨Q, 0, none⟩ = some (.int .i64 t) := cell_of_block hblk rfl
              have d1 : wr.cell? ⟨Q, 1, none⟩ = some (.int .i64 n) := cell_of_block hblk rfl
              have d2 : wr.cell? ⟨Q, 2, none⟩ = some (.int .i64 st) := cell_of_block hblk rfl
              have hQl : Q < wr.heap.size := lt_of_cell d0
              obtain ⟨f, hf⟩ : ∃ f, evs[k']? = some f := ⟨evs[k']'(by rw [HK.out]; omega), by simp⟩
              obtain ⟨eg, hea, hev⟩ := HEV4.out (by rw [HK.out]; omega)
              subst hea
              obtain ⟨c0, c1, c2, c3, c4, c5, c6, c7⟩ := EvRow.at (EvRow.kept hev hbx) hf
              have hlg : eg < wr.heap.size := lt_of_cell c0
              have ts := any_take hf (fun h => h.ck == (t, n, st))
              rw [hsn] at ts
              have hck : (f.ck == (t, n, st)) = (f.txn == t && (f.n == n && f.site == st)) := rfl
              rw [hck] at ts
              have HTS : Hid _ := ts
              have HF : Hid (∀ o, Below W1.heap.size W1 (wr.alloc o)) := fun o => hbx.alloc hbx.size o
              clear ts hck hblk hf hsn hev hbx
              -- <1
              rcases bool_ft (f.txn == t) with s0 | s0
              · go_wp2
                go_roundw
                case rel => exact ⟨k' + 1, hlt, by go_num, by rw [HTS.out, s0]; simp, HF.out _⟩
                case measure => simp [intOf]; omega
              rcases bool_ft (f.n == n) with s1 | s1
              · go_wp2
                go_roundw
                case rel => exact ⟨k' + 1, hlt, by go_num, by rw [HTS.out, s0, s1]; simp, HF.out _⟩
                case measure => simp [intOf]; omega
              rcases bool_ft (f.site == st) with s2 | s2
              · go_wp2
                go_roundw
                case rel => exact ⟨k' + 1, hlt, by go_num, by rw [HTS.out, s0, s1, s2]; simp, HF.out _⟩
                case measure => simp [intOf]; omega
              · go_wp2
                go_roundw
                case rel => exact ⟨k' + 1, hlt, by go_num, by rw [HTS.out, s0, s1, s2]; simp, HF.out _⟩
                case measure => simp [intOf]; omega
              -- 1>
            · have hkj : k' = j := by omega
              subst hkj
              rw [List.take_of_length_le (by rw [HK.out]; omega)] at hsn
              have HSN : Hid _ := hsn
              clear hsn
              have HS2 : Hid (ScrSt W0.heap.size evs r0 lc cv [] L wr) := HS1.out.below hbx
              have HRB2 : Hid (wr.heap[RB]? = some (.cells #[.int .i64 0, .int .i64 lc, .int .i64 0, .int .i64 0, .int .i64 0, .int .i64 cv, .int .i64 0, .int .i64 0] 39)) := by show _ = _; rw [hbx.block _ (Array.getElem?_eq_some_iff.1 HRB.out).1]; exact HRB.out
              have hblk : wr.heap[Q]? = some (.cells #[.int .i64 t, .int .i64 n, .int .i64 st] 29) := by rw [hbx.block _ (Array.getElem?_eq_some_iff.1 HQ4.out).1]; exact HQ4.out
              have d0 : wr.cell? ⟨Q, 0, none⟩ = some (.int .i64 t) := cell_of_block hblk rfl
              have d1 : wr.cell? ⟨Q, 1, none⟩ = some (.int .i64 n) := cell_of_block hblk rfl
              have d2 : wr.cell? ⟨Q, 2, none⟩ = some (.int .i64 st) := cell_of_block hblk rfl
              have hQl : Q < wr.heap.size := lt_of_cell d0
              have HB7 : Hid (Below W0.heap.size W0 wr) := HB5.out.trans (hbx.mono HB5.out.size)
              clear hblk hbx HB5 HB6 HRB HQ4 HEV4 HRP4 HS1
              go_upto_if 84 with fail
              go_cut [13] (fun v W => ∃ x : Nat, v = .int .i64 x ∧ Hid (x = if sn then 0 else 1) ∧ wr = W)
              case first =>
                cases sn
                · go_wp2
                  go_meet
                  case rel => exact ⟨1, rfl, rfl, rfl⟩
                · go_wp2
                  go_meet
                  case rel => exact ⟨0, rfl, rfl, rfl⟩
              case rest =>
              obtain ⟨x, rfl, HXX, rfl⟩ := hcut
              go_wp2_with fail
              refine (zcohort_at HA1.out t n st wr HS2.out.inv).mono ?_
              rintro r w6 ⟨L', cb, rfl, hlk, hext, hinv, hfr, hpag, hrun, hor⟩
              obtain ⟨ex, hse, hex⟩ := HS2.out.ask hinv hpag hrun hor hlk
              rw [HSN.out] at hex
              have hex1 : ex.length ≤ 1 := by rw [hex]; cases sn <;> simp
              obtain rfl : x = ex.length := by rw [hex]; exact HXX.out
              have HB8 : Hid (Below W0.heap.size W0 w6) := HB7.out.trans (hfr.below (fun b t e => (HS2.out.inv.lt b t e).1) HB7.out.size)
              have HRB6 : Hid (w6.heap[RB]? = some (.cells #[.int .i64 0, .int .i64 lc, .int .i64 0, .int .i64 0, .int .i64 0, .int .i64 cv, .int .i64 0, .int .i64 0] 39)) := by show _ = _; rw [hfr.block _ (Array.getElem?_eq_some_iff.1 HRB2.out).1 HRO.out]; exact HRB2.out
              have HSE : Hid (ScrSt W0.heap.size evs r0 lc cv ex L' w6) := hse
              have HLK : Hid (L'.coh.lookup (t, n, st) = some cb) := hlk
              have HA2 : Hid (L'.A = A) := hext.A.trans HA1.out
              have HX1 : Hid (ex.length ≤ 1) := hex1
              have HRO2 : Hid (L'.own RB = none) := (hext.own RB (Array.getElem?_eq_some_iff.1 HRB2.out).1).trans HRO.out
              have hblk : w6.heap[Q]? = some (.cells #[.int .i64 t, .int .i64 n, .int .i64 st] 29) := by rw [HB8.out.block _ (Array.getElem?_eq_some_iff.1 HQ3.out).1]; exact HQ3.out
              have HQ6 : Hid (w6.heap[Q]? = some (.cells #[.int .i64 t, .int .i64 n, .int .i64 st] 29)) := hblk
              obtain ⟨_, sv, hcb, hrow⟩ := hse.inv.coh _ _ hlk
              obtain ⟨sa, sc, rfl, hsl⟩ := hrow.sl
              have hlen := idx_length (ckAt t n st) evs
              obtain ⟨xs, hxs⟩ : ∃ xs, idx (ckAt t n st) evs = xs := ⟨_, rfl⟩
              have hst : (stOf evs r0 lc cv).cohA (t, n, st) = xs := hxs
              rw [hst] at hcb hsl
              rw [hxs, HK.out] at hlen
              obtain ⟨q, hq⟩ : ∃ q, xs.length = q := ⟨_, rfl⟩
              rw [hq] at hcb hlen
              have HCB : Hid _ := hcb
              have HSL : Hid (IntSl w6 sa xs) := hsl
              have HX : Hid _ := hxs
              have HQL : Hid _ := hq
              clear hinv hfr hpag hrun hor hext hlk hse hex hex1 hblk hcb hsl hxs hst hq hrow d0 d1 d2 HS2 HRB2 HRO HB7 HSN HXX hQl
              go_wp2_with fail
              refine (cohortPrepared_any cb _ false _ HCB.out).mono ?_
              rintro r w7 ⟨rfl, rfl⟩
              go_wp2_with fail
              refine (cohortAccesses_any cb sa q sc false _ HCB.out).mono ?_
              rintro r w8 ⟨rfl, rfl⟩
              go_wp2
              have HEV8 : Hid (0 < evs.length → ∃ g, ea = some ⟨g, 0, none⟩ ∧ EvRow w8 g evs) := fun h0 => by
                obtain ⟨g, e, hg⟩ := HEV3.out h0
                exact ⟨g, e, hg.kept HB8.out⟩
              have HRP8 : Hid (IntRow w8 rg (List.replicate k' (-1))) := IntRow.kept HRP.out HB8.out
              have HB9 : Hid (Below Q w w8) := HB3.out.trans (HB8.out.mono (by have := (Array.getElem?_eq_some_iff.1 HQ3.out).1; omega))
              go_loopw [16, 17] (fun p j W => ∃ jn : Nat, jn ≤ k' ∧ j = .int .i64 jn ∧ p = .int .i64 (idx (ckAt t n st) (evs.take jn)).length ∧ Below w8.heap.size w8 W) (fun _ j _ => k' - (intOf j).toNat)
              case atStart => exact ⟨0, Nat.zero_le _, rfl, rfl, Below.refl _ _⟩
              case round =>
                obtain ⟨jn, hjn, rfl, rfl, hbw⟩ := hrel
                obtain ⟨pn, hpn⟩ : ∃ pn, (idx (ckAt t n st) (evs.take jn)).length = pn := ⟨_, rfl⟩
                rw [hpn]
                have hpl : pn ≤ jn := by rw [← hpn]; exact Nat.le_trans (idx_length _ _) (by simp; omega)
                have hblk : wr.heap[Q]? = some (.cells #[.int .i64 t, .int .i64 n, .int .i64 st] 29) := by rw [hbw.block _ (Array.getElem?_eq_some_iff.1 HQ6.out).1]; exact HQ6.out
                have d0 : wr.cell? ⟨Q, 0, none⟩ = some (.int .i64 t) := cell_of_block hblk rfl
                have d1 : wr.cell? ⟨Q, 1, none⟩ = some (.int .i64 n) := cell_of_block hblk rfl
                have d2 : wr.cell? ⟨Q, 2, none⟩ = some (.int .i64 st) := cell_of_block hblk rfl
                have hQl : Q < wr.heap.size := lt_of_cell d0
                have HQ7 : Hid (wr.heap[Q]? = some (.cells #[.int .i64 t, .int .i64 n, .int .i64 st] 29)) := hblk
                clear hblk
                by_cases hlt : jn < k'
                · -- <2
                  obtain ⟨e, he⟩ : ∃ e, evs[jn]? = some e := ⟨evs[jn]'(by rw [HK.out]; exact hlt), by simp⟩
                  obtain ⟨eg, hea, hev⟩ := HEV8.out (by rw [HK.out]; omega)
                  subst hea
                  obtain ⟨c0, c1, c2, c3, c4, c5, c6, c7⟩ := EvRow.at (EvRow.kept hev hbw) he
                  have hlg : eg < wr.heap.size := lt_of_cell c0
                  have htk := idx_take (p := ckAt t n st) he
                  have HTK : Hid _ := htk
                  have HPN : Hid _ := hpn
                  have HE : Hid _ := he
                  have HF : Hid (∀ o, Below w8.heap.size w8 (wr.alloc o)) := fun o => hbw.alloc hbw.size o
                  have hck : ckAt t n st e jn = (e.txn == t && (e.n == n && e.site == st)) := rfl
                  have HCK : Hid _ := hck
                  have HBW : Hid (Below w8.heap.size w8 wr) := hbw
                  clear htk hpn hev he hck hbw
                  rcases bool_ft (e.txn == t) with s0 | s0
                  · have s0' : ¬ e.txn = t := by simpa using s0
                    go_wp2
                    have htk := HTK.out
                    rw [HCK.out, s0] at htk
                    go_roundw
                    case rel => exact ⟨jn + 1, hlt, by go_num, by rw [htk]; simp [HPN.out], HF.out _⟩
                    case measure => simp [intOf]; omega
                  rcases bool_ft (e.n == n) with s1 | s1
                  · have s1' : ¬ e.n = n := by simpa using s1
                    have s0' : (e.txn != t) = false := by simpa using s0
                    go_wp2
                    have htk := HTK.out
                    rw [HCK.out, s0, s1] at htk
                    go_roundw
                    case rel => exact ⟨jn + 1, hlt, by go_num, by rw [htk]; simp [HPN.out], HF.out _⟩
                    case measure => simp [intOf]; omega
                  rcases bool_ft (e.site == st) with s2 | s2
                  · have s2' : ¬ e.site = st := by simpa using s2
                    have s0' : (e.txn != t) = false := by simpa using s0
                    have s1' : (e.n != n) = false := by simpa using s1
                    go_wp2
                    have htk := HTK.out
                    rw [HCK.out, s0, s1, s2] at htk
                    go_roundw
                    case rel => exact ⟨jn + 1, hlt, by go_num, by rw [htk]; simp [HPN.out], HF.out _⟩
                    case measure => simp [intOf]; omega
                  · have s0' : (e.txn != t) = false := by simpa using s0
                    have s1' : (e.n != n) = false := by simpa using s1
                    have s2' : (e.site != st) = false := by simpa using s2
                    have hyes : ckAt t n st e jn = true := by rw [HCK.out, s0, s1, s2]; rfl
                    obtain ⟨hat, hlt2⟩ := idx_at HE.out hyes
                    rw [HX.out, HPN.out] at hat hlt2
                    rw [HQL.out] at hlt2
                    have htk := HTK.out
                    rw [hyes] at htk
                    have HTK : Hid _ := htk
                    obtain ⟨g, hg, hcell⟩ := IntSl.kept HSL.out HBW.out pn _ hat
                    subst hg
                    have hlg2 : g < wr.heap.size := lt_of_cell hcell
                    clear hat htk hyes
                    go_wp2
                    go_roundw
                    case rel => exact ⟨jn + 1, hlt, by go_num, by rw [HTK.out]; simp [HPN.out], HF.out _⟩
                    case measure => simp [intOf]; omega
                  -- 2>
                · have hjm : jn = k' := by omega
                  subst hjm
                  have hpq : pn = q := by rw [← hpn, List.take_of_length_le (by rw [HK.out]; omega), HX.out, HQL.out]
                  subst hpq
                  clear hpn
                  have hnn : ((pn : Int) != (pn : Int)) = false := by simp
                  have HC15 : Hid (Calls Try.prog 15 #[pv A, .int .i64 t, .int .i64 n, .int .i64 st] wr fun e w' => e = .returned (pv cb) ∧ w' = wr) := cohortOf_at HA2.out t n st wr (HSE.out.inv.below hbw) cb HLK.out
                  have hnq := neq30_same cb
                  have HREP9 : Hid (∀ W, Below wr.heap.size wr W → Calls Try.prog 16 #[pv A] W fun e w' => e = .returned (.agg #[.int .i64 0, .int .i64 lc, .int .i64 0, .int .i64 0, .int .i64 0, .int .i64 cv, .int .i64 0, .int .i64 0]) ∧ Below W.heap.size W w') := fun W hb => HREP.out L' ex W ((HSE.out.below hbw).below hb) HA2.out
                  have H23 : Hid (∀ W, Below wr.heap.size wr W → Calls Try.prog 23 #[pv A, .slice ea jn ec, .slice (some ⟨rg, 0, none⟩) jn jn, .int .i64 ex.length] W fun r w' => r = .returned (.bool true) ∧ Below W.heap.size W w') := by
                    intro W hb
                    have hbW := hbw.trans (hb.mono hbw.size)
                    have := stateMatches_any (List.replicate jn (-1)) ea (some ⟨rg, 0, none⟩) ec jn A W (HSE.out.below hbW) HA2.out (fun h0 => by obtain ⟨g, e, hg⟩ := HEV8.out h0; exact ⟨g, e, hg.kept hbW⟩) (fun _ => ⟨rg, rfl, IntRow.kept HRP8.out hbW⟩) (by rw [HK.out]; simp) (r0_replicate jn) (by rw [HK.out]; exact hl) HX1.out
                    rw [HK.out] at this
                    exact this
                  have HRB9 : Hid (∀ W, Below wr.heap.size wr W → (W.cell? ⟨RB, 0, none⟩ = some (.int .i64 0) ∧ W.cell? ⟨RB, 1, none⟩ = some (.int .i64 lc) ∧ W.cell? ⟨RB, 2, none⟩ = some (.int .i64 0) ∧ W.cell? ⟨RB, 3, none⟩ = some (.int .i64 0) ∧ W.cell? ⟨RB, 4, none⟩ = some (.int .i64 0) ∧ W.cell? ⟨RB, 5, none⟩ = some (.int .i64 cv) ∧ W.cell? ⟨RB, 6, none⟩ = some (.int .i64 0) ∧ W.cell? ⟨RB, 7, none⟩ = some (.int .i64 0))) := by
                    intro W hb
                    have hbW := hbw.trans (hb.mono hbw.size)
                    have hblk : W.heap[RB]? = some (.cells #[.int .i64 0, .int .i64 lc, .int .i64 0, .int .i64 0, .int .i64 0, .int .i64 cv, .int .i64 0, .int .i64 0] 39) := by rw [hbW.block _ (Array.getElem?_eq_some_iff.1 HRB6.out).1]; exact HRB6.out
                    exact ⟨cell_of_block hblk rfl, cell_of_block hblk rfl, cell_of_block hblk rfl, cell_of_block hblk rfl, cell_of_block hblk rfl, cell_of_block hblk rfl, cell_of_block hblk rfl, cell_of_block hblk rfl⟩
                  have HC11 : Hid (∀ W, Below wr.heap.size wr W → Calls Try.prog 11 #[pv A, .int .i64 t, .int .i64 n, .int .i64 st] W fun e w' => e = .returned (pv cb) ∧ ∃ L'', L''.A = A ∧ ScrSt W0.heap.size evs r0 lc cv ex L'' w' ∧ Fr L'.own W w' ∧ L'' = L') := by
                    intro W hb
                    have hbW := hbw.trans (hb.mono hbw.size)
                    refine (zcohort_at HA2.out t n st W (HSE.out.inv.below hbW)).mono ?_
                    rintro r w6 ⟨L2, cb2, rfl, hlk, hext, hinv, hfr, hpag, hrun, hor⟩
                    have h2 := HLK.out
                    have hcc := hext.coh _ _ h2
                    rw [hlk] at hcc
                    cases hcc
                    rcases hor with rfl | ⟨h3, _, _⟩
                    · exact ⟨rfl, L2, HA2.out, ⟨hinv, HSE.out.keys⟩, hfr, rfl⟩
                    · rw [h2] at h3; cases h3
                  have HB10 : Hid (Below Q w wr) := HB9.out.trans (hbw.mono (by have := (Array.getElem?_eq_some_iff.1 HQ6.out).1; omega))
                  have HB11 : Hid (Below W0.heap.size W0 wr) := HB8.out.trans (hbw.mono HB8.out.size)
                  have HRB11 : Hid (wr.heap[RB]? = some (.cells #[.int .i64 0, .int .i64 lc, .int .i64 0, .int .i64 0, .int .i64 0, .int .i64 cv, .int .i64 0, .int .i64 0] 39)) := by show _ = _; rw [hbw.block _ (Array.getElem?_eq_some_iff.1 HRB6.out).1]; exact HRB6.out
                  clear HCB HSL HX HQL HEV8 HRP8 HB9 HRB6 HSE hbw HB8
                  go_wp2_with fail
                  refine Calls.mono HC15.out ?_
                  rintro r w9 ⟨rfl, rfl⟩
                  have hrl : RB < w9.heap.size := lt_of_cell (HRB9.out w9 (Below.refl _ _)).1
                  obtain ⟨g0, g1, g2, g3, g4, g5, g6, g7⟩ := HRB9.out w9 (Below.refl _ _)
                  have hgd := guard39
                  go_wp2
                  go_region_held3 (fun W => W.cell? ⟨RB, 0, none⟩ = some (.int .i64 0) ∧ W.cell? ⟨RB, 1, none⟩ = some (.int .i64 lc) ∧ W.cell? ⟨RB, 2, none⟩ = some (.int .i64 0) ∧ W.cell? ⟨RB, 3, none⟩ = some (.int .i64 0) ∧ W.cell? ⟨RB, 4, none⟩ = some (.int .i64 0) ∧ W.cell? ⟨RB, 5, none⟩ = some (.int .i64 cv) ∧ W.cell? ⟨RB, 6, none⟩ = some (.int .i64 0) ∧ W.cell? ⟨RB, 7, none⟩ = some (.int .i64 0)) (first | assumption | go_keep)
                    (first
                      | (go_at_call 16; refine (HREP9.out _ ?_).mono ?_; exact (Below.refl _ _).drew; rintro r w10 ⟨rfl, hb10⟩; have hb : Below w9.heap.size w9 w10 := (Below.refl _ _).drew.trans hb10; clear hb10; have hS := HRB9.out w10 hb)
                      | (go_at_call 23; refine (H23.out _ ?_).mono ?_; exact hb; rintro r w11 ⟨rfl, hb11⟩; have hb2 : Below w9.heap.size w9 w11 := hb.trans (hb11.mono hb.size); clear hb11; have hS3 := HRB9.out w11 hb2))
                  clear hS hS3 hb g0 g1 g2 g3 g4 g5 g6 g7 d0 d1 d2 hrl
                  have hblk : w11.heap[Q]? = some (.cells #[.int .i64 t, .int .i64 n, .int .i64 st] 29) := by rw [hb2.block _ (Array.getElem?_eq_some_iff.1 HQ7.out).1]; exact HQ7.out
                  have d0 : w11.cell? ⟨Q, 0, none⟩ = some (.int .i64 t) := cell_of_block hblk rfl
                  have d1 : w11.cell? ⟨Q, 1, none⟩ = some (.int .i64 n) := cell_of_block hblk rfl
                  have d2 : w11.cell? ⟨Q, 2, none⟩ = some (.int .i64 st) := cell_of_block hblk rfl
                  have hQl2 : Q < w11.heap.size := lt_of_cell d0
                  clear hblk
                  go_wp2_with fail
                  refine (HC11.out _ hb2).mono ?_
                  rintro r w12 ⟨rfl, L2, hA3, hse, hfr, rfl⟩
                  have hB0 : Below W0.heap.size W0 w11 := HB11.out.trans (hb2.mono HB11.out.size)
                  have HB12 : Hid (Below W0.heap.size W0 w12) := hB0.trans (hfr.below (fun b t e => (hse.inv.lt b t e).1) hB0.size)
                  have hrb12 : w12.heap[RB]? = some (.cells #[.int .i64 0, .int .i64 lc, .int .i64 0, .int .i64 0, .int .i64 0, .int .i64 cv, .int .i64 0, .int .i64 0] 39) := by
                    have h1 := hb2.block RB (Array.getElem?_eq_some_iff.1 HRB11.out).1
                    rw [HRB11.out] at h1
                    rw [hfr.block _ (Array.getElem?_eq_some_iff.1 h1).1 HRO2.out]; exact h1
                  have HREP12 : Hid (∀ W, Below w12.heap.size w12 W → Calls Try.prog 16 #[pv A] W fun e w' => e = .returned (.agg #[.int .i64 0, .int .i64 lc, .int .i64 0, .int .i64 0, .int .i64 0, .int .i64 cv, .int .i64 0, .int .i64 0]) ∧ Below W.heap.size W w') := fun W hb => HREP.out L2 ex W (hse.below hb) hA3
                  have H2312 : Hid (∀ W, Below w12.heap.size w12 W → Calls Try.prog 23 #[pv A, .slice ea jn ec, .slice (some ⟨rg, 0, none⟩) jn jn, .int .i64 ex.length] W fun r w' => r = .returned (.bool true) ∧ Below W.heap.size W w') := by
                    intro W hb
                    have hbW := HB12.out.trans (hb.mono HB12.out.size)
                    have := stateMatches_any (List.replicate jn (-1)) ea (some ⟨rg, 0, none⟩) ec jn A W (hse.below hb) hA3 (fun h0 => by obtain ⟨g, e, hg⟩ := HEV3.out h0; exact ⟨g, e, hg.kept hbW⟩) (fun _ => ⟨rg, rfl, IntRow.kept HRP.out hbW⟩) (by rw [HK.out]; simp) (r0_replicate jn) (by rw [HK.out]; exact hl) HX1.out
                    rw [HK.out] at this
                    exact this
                  have HRB12 : Hid (∀ W, Below w12.heap.size w12 W → (W.cell? ⟨RB, 0, none⟩ = some (.int .i64 0) ∧ W.cell? ⟨RB, 1, none⟩ = some (.int .i64 lc) ∧ W.cell? ⟨RB, 2, none⟩ = some (.int .i64 0) ∧ W.cell? ⟨RB, 3, none⟩ = some (.int .i64 0) ∧ W.cell? ⟨RB, 4, none⟩ = some (.int .i64 0) ∧ W.cell? ⟨RB, 5, none⟩ = some (.int .i64 cv) ∧ W.cell? ⟨RB, 6, none⟩ = some (.int .i64 0) ∧ W.cell? ⟨RB, 7, none⟩ = some (.int .i64 0))) := by
                    intro W hb
                    have hblk : W.heap[RB]? = some (.cells #[.int .i64 0, .int .i64 lc, .int .i64 0, .int .i64 0, .int .i64 0, .int .i64 cv, .int .i64 0, .int .i64 0] 39) := by rw [hb.block _ (Array.getElem?_eq_some_iff.1 hrb12).1]; exact hrb12
                    exact ⟨cell_of_block hblk rfl, cell_of_block hblk rfl, cell_of_block hblk rfl, cell_of_block hblk rfl, cell_of_block hblk rfl, cell_of_block hblk rfl, cell_of_block hblk rfl, cell_of_block hblk rfl⟩
                  have HFIN : Hid (Below Q w w12) := HB3.out.trans (HB12.out.mono (by have := (Array.getElem?_eq_some_iff.1 HQ3.out).1; omega))
                  have hQB : Q ≤ w12.heap.size := by have := (Array.getElem?_eq_some_iff.1 HQ3.out).1; have := HB12.out.size; omega
                  clear hfr hse hA3 hB0 hrb12 hb2 d0 d1 d2 hQl2 hQl HC11 HC15 HREP9 H23 HRB9 HREP HB11 HRB11 HB12 HEV3 HRP HB10
                  obtain ⟨g0, g1, g2, g3, g4, g5, g6, g7⟩ := HRB12.out w12 (Below.refl _ _)
                  have hrl : RB < w12.heap.size := lt_of_cell g0
                  go_wp2
                  go_region_held3 (fun W => W.cell? ⟨RB, 0, none⟩ = some (.int .i64 0) ∧ W.cell? ⟨RB, 1, none⟩ = some (.int .i64 lc) ∧ W.cell? ⟨RB, 2, none⟩ = some (.int .i64 0) ∧ W.cell? ⟨RB, 3, none⟩ = some (.int .i64 0) ∧ W.cell? ⟨RB, 4, none⟩ = some (.int .i64 0) ∧ W.cell? ⟨RB, 5, none⟩ = some (.int .i64 cv) ∧ W.cell? ⟨RB, 6, none⟩ = some (.int .i64 0) ∧ W.cell? ⟨RB, 7, none⟩ = some (.int .i64 0)) (first | assumption | go_keep)
                    (first
                      | (go_at_call 16; refine (HREP12.out _ ?_).mono ?_; exact (Below.refl _ _).drew; rintro r w13 ⟨rfl, hb13⟩; have hb : Below w12.heap.size w12 w13 := (Below.refl _ _).drew.trans hb13; clear hb13; have hS := HRB12.out w13 hb)
                      | (go_at_call 23; refine (H2312.out _ ?_).mono ?_; exact hb; rintro r w14 ⟨rfl, hb14⟩; have hb2 : Below w12.heap.size w12 w14 := hb.trans (hb14.mono hb.size); clear hb14; have hS3 := HRB12.out w14 hb2))
                  go_wp2
                  go_ret
                  exact ⟨rfl, by rw [HQE.out]; exact HFIN.out.trans (hb2.mono hQB)⟩
end Go.Proofs.Qxb6604372a
