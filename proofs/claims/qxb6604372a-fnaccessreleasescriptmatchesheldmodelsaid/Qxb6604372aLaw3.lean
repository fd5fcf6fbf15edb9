/-
  FnCohortIsOneFreshCohortPerKey: the walk.
-/
import Derived.Test.Qxb6604372aEq
namespace Go.Proofs.Qxb6604372a
open Go.ChangeShapes Go.WideShapes Go.ChangeAt Go.RowKit
attribute [local go_sem ↓] equal39_lit

theorem info30 : (Try.prog.info? 30).map (fun i => (i.zero, i.size, i.bytes)) = some (some (.pointer none), 1, 8) := by kernel_rfl
theorem zzBytes8_true (a : Option Addr) (len cap : Nat) (w : World) (hl : len ≤ 4096) : Calls Try.prog 8 #[.slice a len cap] w fun e w' => e = .returned (.bool true) ∧ w' = w :=
  (zzBytes8 a len cap w (by unfold maxLen; omega)).mono fun e w' ⟨he, hw⟩ => ⟨by rw [he]; simp; omega, hw⟩
theorem copyKeys_pos (a : Option Addr) (len cap : Nat) (ks : List K3) (w : World) (h : KeysAt w a len ks) (hlen : len ≤ 4096) (h0 : 0 < len) :
    Calls Try.prog 9 #[.slice a len cap] w fun e w' => ∃ g c cur, e = .returned (.slice (some ⟨g, 0, none⟩) len c) ∧ w.heap.size ≤ g ∧ w'.heap[g]? = some (.cells cur 29 (0, 0)) ∧ cur.toList.take (len * 3) = ks.flatMap keyCells ∧ Below w.heap.size w w' := by
  refine (copyKeys_any a len cap ks w h hlen).mono ?_
  rintro e w' ⟨v, rfl, hown, hb⟩
  rcases hown.2 with ⟨_, hn⟩ | ⟨g, c, cur, rfl, hg, hh, _, _, _, ht⟩
  · omega
  · exact ⟨g, c, cur, rfl, hg, hh, ht, hb⟩
section
variable {base : Nat} {L : Lay} {s : St} {A : Nat}
theorem zcohort_at (hA : L.A = A) (t n st : Int) (w : World) (h : Inv base L s w) :
    Calls Try.prog 11 #[pv A, .int .i64 t, .int .i64 n, .int .i64 st] w fun e w' => ∃ L' b, e = .returned (pv b) ∧ L'.coh.lookup (t, n, st) = some b ∧ Ext w.heap.size L L' ∧ Inv base L' s w' ∧ Fr L.own w w' ∧
      L'.pag = L.pag ∧ L'.run = L.run ∧ (L' = L ∨ L.coh.lookup (t, n, st) = none ∧ w.heap.size ≤ b ∧ L'.coh = L.coh ++ [((t, n, st), b)]) := by
  subst hA; exact zcohort_any t n st w h
theorem cohortCount_at (hA : L.A = A) (w : World) (h : Inv base L s w) : Calls Try.prog 14 #[pv A] w fun e w' => e = .returned (.int .i64 L.coh.length) ∧ w' = w := by
  subst hA; exact cohortCount_any w h
theorem cohortOf_at (hA : L.A = A) (t n st : Int) (w : World) (h : Inv base L s w) (b : Nat) (hl : L.coh.lookup (t, n, st) = some b) : Calls Try.prog 15 #[pv A, .int .i64 t, .int .i64 n, .int .i64 st] w fun e w' => e = .returned (pv b) ∧ w' = w := by
  subst hA; exact (cohortOf_any t n st w h).mono fun e w' ⟨he, hw⟩ => ⟨by rw [he, hl]; rfl, hw⟩
end

theorem report0_at {base : Nat} {L : Lay} {A : Nat} (hA : L.A = A) (w : World) (h : Inv base L st0 w) : Calls Try.prog 16 #[pv A] w fun e w' => e = .returned (.agg #[.int .i64 0, .int .i64 0, .int .i64 0, .int .i64 0, .int .i64 0, .int .i64 0, .int .i64 0, .int .i64 0]) ∧ Below w.heap.size w w' := by
  subst hA; exact report_any w h
theorem accessCount0_at {base : Nat} {L : Lay} {A : Nat} (hA : L.A = A) (w : World) (h : Inv base L st0 w) : Calls Try.prog 17 #[pv A] w fun e w' => e = .returned (.int .i64 0) ∧ w' = w := by
  subst hA; exact accessCount_any w h
theorem pageCount0_at {base : Nat} {L : Lay} {A : Nat} (hA : L.A = A) (w : World) (h : Inv base L st0 w) (h0 : L.pag = []) : Calls Try.prog 18 #[pv A] w fun e w' => e = .returned (.int .i64 0) ∧ w' = w := by
  subst hA; have := pageCount_any w h; rw [h0] at this; exact this
theorem runCount0_at {base : Nat} {L : Lay} {A : Nat} (hA : L.A = A) (w : World) (h : Inv base L st0 w) (h0 : L.run = []) : Calls Try.prog 19 #[pv A] w fun e w' => e = .returned (.int .i64 0) ∧ w' = w := by
  subst hA; have := runCount_any w h; rw [h0] at this; exact this

/-- The outer loop's state behind k rounds. -/
structure L3 (B kb gb A len : Nat) (ks : List K3) (kcur : Array Value) (w : World) (k k' : Nat) (L : Lay) (gc : Array Value) (wr : World) : Prop where
  inv : Inv B L st0 wr
  A : L.A = A
  pag : L.pag = []
  run : L.run = []
  kown : L.own kb = none
  kblk : wr.heap[kb]? = some (.cells kcur 29 (0, 0))
  gown : L.own gb = none
  gblk : wr.heap[gb]? = some (.cells gc 30 (0, 0))
  gsz : gc.size = len
  got : ∀ j q, j < k → ks[j]? = some q → ∃ b, L.coh.lookup q = some b ∧ gc[j]? = some (pv b)
  keys : ∀ q b, L.coh.lookup q = some b → q ∈ ks.take k'
  clen : L.coh.length ≤ k'
  below : Below B w wr

section
variable {B kb gb A len : Nat} {ks : List K3} {kcur : Array Value} {w : World} {k k' : Nat} {L L' : Lay} {gc : Array Value} {wr w4 w5 : World}
theorem L3.kept (h : L3 B kb gb A len ks kcur w k k' L gc w4) (hb : Below w4.heap.size w4 w5) : L3 B kb gb A len ks kcur w k k' L gc w5 :=
  ⟨h.inv.below hb, h.A, h.pag, h.run, h.kown, (hb.block kb (Array.getElem?_eq_some_iff.1 h.kblk).1).trans h.kblk, h.gown, (hb.block gb (Array.getElem?_eq_some_iff.1 h.gblk).1).trans h.gblk, h.gsz, h.got, h.keys, h.clen, h.below.trans (hb.mono (Nat.le_trans h.inv.base_le (Nat.le_refl _)))⟩
/-- Behind the call of cohort. -/
theorem L3.called (h : L3 B kb gb A len ks kcur w k k L gc wr) {q : K3} (hq : ks[k]? = some q) {b : Nat} (hlk : L'.coh.lookup q = some b) (hext : Ext wr.heap.size L L') (hinv : Inv B L' st0 w4) (hfr : Fr L.own wr w4) (hp : L'.pag = L.pag) (hr : L'.run = L.run)
    (hor : L' = L ∨ L.coh.lookup q = none ∧ wr.heap.size ≤ b ∧ L'.coh = L.coh ++ [(q, b)]) : L3 B kb gb A len ks kcur w k (k + 1) L' gc w4 := by
  have hkb := (Array.getElem?_eq_some_iff.1 h.kblk).1
  have hgb := (Array.getElem?_eq_some_iff.1 h.gblk).1
  have hmem : q ∈ ks.take (k + 1) := List.mem_of_getElem? (by rw [List.getElem?_take, if_pos (Nat.lt_succ_self k)]; exact hq)
  refine ⟨hinv, hext.A.trans h.A, hp.trans h.pag, hr.trans h.run, (hext.own kb hkb).trans h.kown, (hfr.block kb hkb h.kown).trans h.kblk, (hext.own gb hgb).trans h.gown, (hfr.block gb hgb h.gown).trans h.gblk, h.gsz, fun j q' hj e => ?_, fun q' b' e => ?_, ?_, h.below.trans (hfr.below (fun b t e => (h.inv.lt b t e).1) h.inv.base_le)⟩
  · obtain ⟨b', e1, e2⟩ := h.got j q' hj e
    exact ⟨b', hext.coh _ _ e1, e2⟩
  · rcases hor with rfl | ⟨_, _, hc⟩
    · have := h.keys q' b' e
      rw [List.take_add_one]; exact List.mem_append_left _ this
    · rw [hc] at e
      rcases lookup_snoc_some e with e' | ⟨_, rfl, _⟩
      · rw [List.take_add_one]; exact List.mem_append_left _ (h.keys q' b' e')
      · exact hmem
  · have := h.clen
    rcases hor with rfl | ⟨_, _, hc⟩
    · omega
    · rw [hc]; simp; omega
/-- Behind the store of 'got[k]'. -/
theorem L3.stored (h : L3 B kb gb A len ks kcur w k k' L gc w4) {q : K3} (hq : ks[k]? = some q) {b : Nat} (hlk : L.coh.lookup q = some b) (hk : k < len) (hne : kb ≠ gb) (hgB : B ≤ gb) : L3 B kb gb A len ks kcur w (k + 1) k' L (gc.setIfInBounds k (pv b)) (w4.setCell ⟨gb, k, none⟩ (pv b)) := by
  have hother : ∀ i, i ≠ gb → (w4.setCell ⟨gb, k, none⟩ (pv b)).heap[i]? = w4.heap[i]? := fun i hi => Below.heap_setCell _ _ _ _ hi
  refine ⟨h.inv.kept (by simp) fun i t e => hother i (fun e' => by rw [e', h.gown] at e; cases e), h.A, h.pag, h.run, h.kown, (hother kb hne).trans h.kblk, h.gown, heap_setCell_same h.gblk _ _, by simp [h.gsz], fun j q' hj e => ?_, h.keys, h.clen, h.below.setCell hgB _⟩
  have hs := h.gsz
  rw [Array.getElem?_setIfInBounds]
  by_cases hjk : k = j
  · subst hjk
    rw [hq] at e; cases e
    exact ⟨b, hlk, by rw [if_pos rfl, if_pos (by omega)]⟩
  · rw [if_neg hjk]
    exact h.got j q' (by omega) e
end

section
variable {B kb gb A len : Nat} {ks : List K3} {kcur : Array Value} {w : World} {k : Nat} {L L' : Lay} {gc : Array Value} {wr : World}
theorem L3.cases (h : L3 B kb gb A len ks kcur w k k L gc wr) (hk : k ≤ ks.length) {q : K3} {b n : Nat} (hn : wr.heap.size ≤ n) (hor : L' = L ∨ L.coh.lookup q = none ∧ n ≤ b ∧ L'.coh = L.coh ++ [(q, b)]) (hlk : L'.coh.lookup q = some b) :
    (q ∈ ks.take k ∧ L'.coh.length = L.coh.length) ∨ (¬ q ∈ ks.take k ∧ L'.coh.length = L.coh.length + 1 ∧ ∀ j b', j < k → gc[j]? = some (pv b') → b' ≠ b) := by
  rcases hor with rfl | ⟨h1, h2, h3⟩
  · exact .inl ⟨h.keys q b hlk, rfl⟩
  · refine .inr ⟨fun hm => ?_, by rw [h3]; simp, fun j b' hj hg => ?_⟩
    · obtain ⟨i, hi⟩ := List.mem_iff_getElem?.1 hm
      rw [List.getElem?_take] at hi
      split at hi
      · obtain ⟨b', e, _⟩ := h.got i q (by assumption) hi
        rw [h1] at e; cases e
      · cases hi
    · obtain ⟨b'', e1, e2⟩ := h.got j (ks[j]'(by omega)) hj (by simp)
      rw [e2] at hg
      cases hg
      have := (h.inv.lt _ _ (h.inv.coh _ _ e1).1).2
      omega
end
theorem neq30_same (b : Nat) (w : World) : (binOp .neq 30 (pv b) (pv b)).run Try.prog w = .ok (.bool false) w := by
  obtain ⟨j, hj, hs⟩ := infoOf (t := 69) 2 (by kernel_rfl) (by decide)
  have h := run_eql_ptr_same (P := Try.prog) w ⟨b, 0, none⟩ Try.underlying30 hj
  simp only [binOp] at h ⊢
  simp at h
  cases he : (Op.equal 30 (pv b) (pv b)).run Try.prog w with
  | ok a w' => rw [he] at h; simp [Result.andThen] at h; simp [he, h]
  | halt x w' => rw [he] at h; simp [Result.andThen] at h

set_option maxRecDepth 100000 in
set_option maxHeartbeats 4000000 in
theorem law3_pos (a : Option Addr) (len cap : Nat) (ks : List K3) (w : World) (h : KeysAt w a len ks) (hl : len ≤ 4096) (h0 : 0 < len) :
    Calls Try.prog 3 #[.slice a len cap] w fun e w' => e = .returned (.bool true) ∧ Below w.heap.size w w' := by
  obtain ⟨i0, hi, hz0, hz1, hz2⟩ := info_parts info30
  have hks := h.1
  have HK : Hid _ := hks
  have hd : decide ((4096 : Int) < (len : Int)) = false := by simp; omega
  clear hks
  go_enter Try.func3, Try.ntmps3
  go_wp2_with fail
  refine (zzBytes8_true a len cap w hl).mono ?_
  rintro e w ⟨rfl, rfl⟩
  go_wp2_with fail
  refine (copyKeys_pos a len cap ks _ h hl h0).mono ?_
  rintro e w1 ⟨kb, kc, kcur, rfl, hkb, hkh, hkt, hb1⟩
  go_wp2_with fail
  refine (newAuditor_any w1 (base := w.heap.size) hb1.size).mono ?_
  rintro e w2 ⟨L0, rfl, hinv, hb2, hc0, hp0, hr0, hfree⟩
  have HC0 : Hid _ := hc0
  have HP0 : Hid _ := hp0
  have HR0 : Hid _ := hr0
  have HKT : Hid _ := hkt
  have HKH : Hid _ := hkh
  have HF : Hid _ := hfree
  clear hc0 hp0 hr0 hkt hkh hfree h
  go_wp2_with (at_make; refine wpList_make_full _ rfl _ _ 27 rfl w2.heap.size 30 i0 (.pointer none) 1 Try.underlying27 hi hz0 hz1 .i64 .i64 _ _ len rfl rfl rfl rfl (by rw [hz2]; omega) (by unfold maxLen; omega) (Nat.le_refl _) ?_; intro w3 hown hgrow)
  have hst : ∃ gc, L3 w.heap.size kb w2.heap.size L0.A len ks kcur w 0 0 L0 gc w3 := by
    rcases hown.2 with ⟨e, _⟩ | ⟨g, cp, cur, e, _, hh, _, _, hs, _⟩
    · cases e
    · cases e
      have hk1 : kb < w1.heap.size := (Array.getElem?_eq_some_iff.1 HKH.out).1
      have hb3 : Below w2.heap.size w2 w3 := (Below.refl _ _).grown hgrow (Nat.le_refl _) (by simp)
      have hs2 := hb2.size
      have hs1 := hb1.size
      refine ⟨cur, hinv.below hb3, rfl, HP0.out, HR0.out, HF.out kb hk1, ?_, ?_, hh, by simpa using hs, fun j q hj => absurd hj (Nat.not_lt_zero _), fun q b e => ?_, by rw [HC0.out]; exact Nat.zero_le _, ?_⟩
      · rw [hb3.block kb (by omega), hb2.block kb hk1]; exact HKH.out
      · exact hinv.fresh (Nat.le_refl _)
      · rw [HC0.out] at e; cases e
      · exact (hb1.trans (hb2.mono hs1)).trans (hb3.mono (by omega))
  have hlen0 : Hid (L0.coh.length = 0) := by show _ = _; rw [HC0.out]; rfl
  have hgb : w.heap.size ≤ w2.heap.size := Nat.le_trans hb1.size hb2.size
  have hkg : kb ≠ w2.heap.size := by have := (Array.getElem?_eq_some_iff.1 HKH.out).1; have := hb2.size; omega
  clear hown hgrow hinv hb2 hb1 HC0 HP0 HR0 HF HKH hi hz0 hz1 hz2
  generalize w2.heap.size = gb at *
  generalize L0.A = A at *
  go_loopw [5, 6] (fun d i wr => ∃ (k : Nat) (L : Lay) (gc : Array Value), k ≤ len ∧ i = .int .i64 k ∧ d = .int .i64 L.coh.length ∧ L3 w.heap.size kb gb A len ks kcur w k k L gc wr) (fun _ i _ => len - (intOf i).toNat)
  case atStart =>
    obtain ⟨gc, hst⟩ := hst
    exact ⟨0, L0, gc, Nat.zero_le _, rfl, by rw [hlen0.out]; rfl, hst⟩
  case round =>
    clear hst hlen0
    obtain ⟨k, L, gc, hk, rfl, rfl, hL⟩ := hrel
    by_cases hlt : k < len
    · obtain ⟨⟨t, n, st⟩, hq⟩ : ∃ q, ks[k]? = some q := ⟨ks[k]'(by rw [HK.out]; exact hlt), by simp⟩
      have c0 : wr.cell? ⟨kb, k * 3, none⟩ = some (.int .i64 t) := row_cell hL.kblk HKT.out (by rw [← Nat.add_zero (k * 3), flat_get keyCells 3 (fun _ => rfl) ks k 0 _ hq (by omega)]; rfl)
      have c1 : wr.cell? ⟨kb, k * 3 + 1, none⟩ = some (.int .i64 n) := row_cell hL.kblk HKT.out (by rw [flat_get keyCells 3 (fun _ => rfl) ks k 1 _ hq (by omega)]; rfl)
      have c2 : wr.cell? ⟨kb, k * 3 + 2, none⟩ = some (.int .i64 st) := row_cell hL.kblk HKT.out (by rw [flat_get keyCells 3 (fun _ => rfl) ks k 2 _ hq (by omega)]; rfl)
      have HQ : Hid _ := hq
      clear hq
      go_wp2_with fail
      refine (zcohort_at hL.A t n st _ (hL.inv.below ((Below.refl _ _).alloc (Nat.le_refl _) _))).mono ?_
      rintro e w4 ⟨L', b, rfl, hlk, hext, hinv', hfr, hpag, hrun, hor⟩
      have hA4 : Below wr.heap.size wr (wr.alloc (.cells #[.int .i64 t, .int .i64 n, .int .i64 st] 29)) := (Below.refl _ _).alloc (Nat.le_refl _) _
      have hm : L3 w.heap.size kb gb A len ks kcur w k (k + 1) L' gc w4 := (hL.kept hA4).called HQ.out hlk hext hinv' hfr hpag hrun hor
      have hqb : w4.heap[wr.heap.size]? = some (.cells #[.int .i64 t, .int .i64 n, .int .i64 st] 29) := by
        rw [hfr.block wr.heap.size (by simp) (hL.inv.fresh (Nat.le_refl _))]; exact heap_at _ _ rfl
      have hwr : wr.heap.size < w4.heap.size := by have := hfr.size; simp at this; omega
      have HE : Hid _ := hext
      have HO : Hid _ := hor
      have HQB : Hid _ := hqb
      have HLK : Hid _ := hlk
      clear hext hinv' hfr hpag hrun hor hA4 c0 c1 c2 hqb hlk
      have hcs := hL.cases (n := wr.heap.size + 1) (by rw [HK.out]; omega) (by omega) (by simpa using HO.out) HLK.out
      have hqg : wr.heap.size ≠ gb := by have := (Array.getElem?_eq_some_iff.1 hL.gblk).1; omega
      clear hL HE HO
      generalize wr.heap.size = qb at *
      rcases hcs with ⟨hin, hlen⟩ | ⟨hnin, hlen, hne⟩
      · have hbne : ((L'.coh.length : Int) != (L.coh.length : Int)) = false := by rw [hlen]; simp
        have HIN : Hid _ := hin
        have HLEN : Hid _ := hlen
        clear hin hlen wr
        go_wp2
        go_loopw [9, 10] (fun f j wx => ∃ jn : Nat, jn ≤ k ∧ j = .int .i64 jn ∧ f = .int .i64 (-1) ∧ Hid (∀ i, i < jn → ks[i]? ≠ some (t, n, st)) ∧ Below w4.heap.size w4 wx) (fun _ j _ => k - (intOf j).toNat)
        case atStart => exact ⟨0, Nat.zero_le _, rfl, rfl, fun i hi => absurd hi (Nat.not_lt_zero _), Below.refl _ _⟩
        case round =>
          obtain ⟨jn, hjk, rfl, rfl, HN, hbx⟩ := hrel
          by_cases hjlt : jn < k
          · obtain ⟨⟨t', n', st'⟩, hq'⟩ : ∃ q, ks[jn]? = some q := ⟨ks[jn]'(by rw [HK.out]; omega), by simp⟩
            have hmx := hm.kept hbx
            have c0 : wr.cell? ⟨kb, jn * 3, none⟩ = some (.int .i64 t') := row_cell hmx.kblk HKT.out (by rw [← Nat.add_zero (jn * 3), flat_get keyCells 3 (fun _ => rfl) ks jn 0 _ hq' (by omega)]; rfl)
            have c1 : wr.cell? ⟨kb, jn * 3 + 1, none⟩ = some (.int .i64 n') := row_cell hmx.kblk HKT.out (by rw [flat_get keyCells 3 (fun _ => rfl) ks jn 1 _ hq' (by omega)]; rfl)
            have c2 : wr.cell? ⟨kb, jn * 3 + 2, none⟩ = some (.int .i64 st') := row_cell hmx.kblk HKT.out (by rw [flat_get keyCells 3 (fun _ => rfl) ks jn 2 _ hq' (by omega)]; rfl)
            have hqx := (hbx.block qb hwr).trans HQB.out
            have d0 : wr.cell? ⟨qb, 0, none⟩ = some (.int .i64 t) := cell_of_block hqx rfl
            have d1 : wr.cell? ⟨qb, 1, none⟩ = some (.int .i64 n) := cell_of_block hqx rfl
            have d2 : wr.cell? ⟨qb, 2, none⟩ = some (.int .i64 st) := cell_of_block hqx rfl
            have hgd := guard29
            have hjl : (jn : Int) < (len : Int) := by omega
            have HQX : Hid _ := hqx
            clear hqx
            by_cases hqq : (t', n', st') = (t, n, st)
            · cases hqq
              obtain ⟨b', hb', hg'⟩ := hmx.got jn (t, n, st) hjlt hq'
              rw [HLK.out] at hb'
              cases hb'
              have g0 : wr.cell? ⟨gb, jn, none⟩ = some (pv b) := cell_of_block hmx.gblk hg'
              obtain ⟨v0, g1⟩ := cell_some_of_block hmx.gblk (o := k) (by rw [hmx.gsz]; exact hlt)
              have hf := frozen_of_block hmx.gblk
              have hnq := neq30_same b
              have HX : Hid _ := hmx
              clear hq' hg' hmx HN
              go_wp2
              go_quiet (fail)
              go_wp2_with fail
              have hmS := (HX.out.kept (below_drewN (Below.refl _ _) nq)).stored HQ.out HLK.out hlt hkg hgb
              refine (cohortCount_at hmS.A _ hmS.inv).mono ?_
              rintro e wc ⟨rfl, rfl⟩
              have hqs : ((wr.drewN nq).setCell ⟨gb, k, none⟩ (pv b)).heap[qb]? = some (.cells #[.int .i64 t, .int .i64 n, .int .i64 st] 29) := (Below.heap_setCell _ _ _ _ hqg).trans HQX.out
              have s0 : ((wr.drewN nq).setCell ⟨gb, k, none⟩ (pv b)).cell? ⟨qb, 0, none⟩ = some (.int .i64 t) := cell_of_block hqs rfl
              have s1 : ((wr.drewN nq).setCell ⟨gb, k, none⟩ (pv b)).cell? ⟨qb, 1, none⟩ = some (.int .i64 n) := cell_of_block hqs rfl
              have s2 : ((wr.drewN nq).setCell ⟨gb, k, none⟩ (pv b)).cell? ⟨qb, 2, none⟩ = some (.int .i64 st) := cell_of_block hqs rfl
              clear hqs
              go_wp2_with fail
              refine (cohortOf_at hmS.A t n st _ hmS.inv b HLK.out).mono ?_
              rintro e wc ⟨rfl, rfl⟩
              go_wp2
              go_roundw
              case rel => exact ⟨k + 1, L', _, by omega, by go_num, by rw [HLEN.out], hmS⟩
              case measure => simp [intOf]; omega
            · have h3 : ¬ t' = t ∨ (t' = t ∧ ¬ n' = n) ∨ (t' = t ∧ n' = n ∧ ¬ st' = st) := by
                by_cases e1 : t' = t
                · by_cases e2 : n' = n
                  · exact .inr (.inr ⟨e1, e2, fun e3 => hqq (by rw [e1, e2, e3])⟩)
                  · exact .inr (.inl ⟨e1, e2⟩)
                · exact .inl e1
              have HN' : Hid (∀ i, i < jn + 1 → ks[i]? ≠ some (t, n, st)) := fun i hi => by
                by_cases e : i = jn
                · rw [e, hq']; exact fun h => hqq (Option.some.inj h)
                · exact HN.out i (by omega)
              clear hq' hqq HN hmx
              rcases h3 with h3 | ⟨rfl, h3⟩ | ⟨rfl, rfl, h3⟩
              all_goals
                go_wp2
                go_quiet (fail)
                go_wp2
                go_roundw
                case rel => exact ⟨jn + 1, by omega, by go_num, rfl, HN', below_drewN hbx _⟩
                case measure => simp [intOf]; omega
          · exfalso
            obtain ⟨i, hi⟩ := List.mem_iff_getElem?.1 HIN.out
            rw [List.getElem?_take] at hi
            split at hi
            · exact HN.out i (by omega) hi
            · cases hi
      · have hbne : (((L'.coh.length : Int) != (L.coh.length : Int) + 1)) = false := by rw [hlen]; simp
        have hcl : (L.coh.length : Int) ≤ 4096 := by have := hm.clen; omega
        have HNIN : Hid _ := hnin
        have HLEN : Hid _ := hlen
        have HNE : Hid _ := hne
        clear hnin hlen hne wr
        go_wp2
        go_loopw [9, 10] (fun f j wx => ∃ jn : Nat, jn ≤ k ∧ j = .int .i64 jn ∧ f = .int .i64 (-1) ∧ Below w4.heap.size w4 wx) (fun _ j _ => k - (intOf j).toNat)
        case atStart => exact ⟨0, Nat.zero_le _, rfl, rfl, Below.refl _ _⟩
        case round =>
          obtain ⟨jn, hjk, rfl, rfl, hbx⟩ := hrel
          by_cases hjlt : jn < k
          · obtain ⟨⟨t', n', st'⟩, hq'⟩ : ∃ q, ks[jn]? = some q := ⟨ks[jn]'(by rw [HK.out]; omega), by simp⟩
            have hmx := hm.kept hbx
            have c0 : wr.cell? ⟨kb, jn * 3, none⟩ = some (.int .i64 t') := row_cell hmx.kblk HKT.out (by rw [← Nat.add_zero (jn * 3), flat_get keyCells 3 (fun _ => rfl) ks jn 0 _ hq' (by omega)]; rfl)
            have c1 : wr.cell? ⟨kb, jn * 3 + 1, none⟩ = some (.int .i64 n') := row_cell hmx.kblk HKT.out (by rw [flat_get keyCells 3 (fun _ => rfl) ks jn 1 _ hq' (by omega)]; rfl)
            have c2 : wr.cell? ⟨kb, jn * 3 + 2, none⟩ = some (.int .i64 st') := row_cell hmx.kblk HKT.out (by rw [flat_get keyCells 3 (fun _ => rfl) ks jn 2 _ hq' (by omega)]; rfl)
            have hqx := (hbx.block qb hwr).trans HQB.out
            have d0 : wr.cell? ⟨qb, 0, none⟩ = some (.int .i64 t) := cell_of_block hqx rfl
            have d1 : wr.cell? ⟨qb, 1, none⟩ = some (.int .i64 n) := cell_of_block hqx rfl
            have d2 : wr.cell? ⟨qb, 2, none⟩ = some (.int .i64 st) := cell_of_block hqx rfl
            have hgd := guard29
            have hjl : (jn : Int) < (len : Int) := by omega
            have h3 : ¬ t' = t ∨ (t' = t ∧ ¬ n' = n) ∨ (t' = t ∧ n' = n ∧ ¬ st' = st) := by
              by_cases e1 : t' = t
              · by_cases e2 : n' = n
                · refine .inr (.inr ⟨e1, e2, fun e3 => HNIN.out ?_⟩)
                  subst e1 e2 e3
                  exact List.mem_of_getElem? (i := jn) (by rw [List.getElem?_take, if_pos hjlt]; exact hq')
                · exact .inr (.inl ⟨e1, e2⟩)
              · exact .inl e1
            clear hq' hmx hqx
            rcases h3 with h3 | ⟨rfl, h3⟩ | ⟨rfl, rfl, h3⟩
            all_goals
              go_wp2
              go_quiet (fail)
              go_wp2
              go_roundw
              case rel => exact ⟨jn + 1, by omega, by go_num, rfl, below_drewN hbx _⟩
              case measure => simp [intOf]; omega
          · have hmx := hm.kept hbx
            obtain ⟨_, sv, hcb, hrow⟩ := hmx.inv.coh _ _ HLK.out
            have hsv : ∃ sa sc, sv = .slice sa 0 sc := by
              rcases hrow.1.2 with ⟨e, _⟩ | ⟨g, cp, cur, e, _⟩
              · exact ⟨_, _, e⟩
              · exact ⟨_, _, e⟩
            obtain ⟨sa, sc, rfl⟩ := hsv
            have hqx := (hbx.block qb hwr).trans HQB.out
            obtain ⟨v0, g1⟩ := cell_some_of_block hmx.gblk (o := k) (by rw [hmx.gsz]; exact hlt)
            have hf := frozen_of_block hmx.gblk
            have hnq := neq30_same b
            have HQX : Hid _ := hqx
            have HCB : Hid _ := hcb
            clear hrow hqx hcb
            go_wp2_with fail
            refine (cohortPrepared_any b (.slice sa 0 sc) false _ HCB.out).mono ?_
            rintro e wr ⟨rfl, rfl⟩
            go_wp2_with fail
            refine (cohortAccesses_any b sa 0 sc false _ HCB.out).mono ?_
            rintro e wr ⟨rfl, rfl⟩
            go_wp2
            go_loop [11] (fun j => ∃ jm : Nat, jm ≤ k ∧ j = .int .i64 jm) (fun j => k - (intOf j).toNat)
            case atStart => exact ⟨0, Nat.zero_le _, rfl⟩
            case round =>
              obtain ⟨jm, hjm, rfl⟩ := hrel
              by_cases hml : jm < k
              · obtain ⟨q', hq'⟩ : ∃ q, ks[jm]? = some q := ⟨ks[jm]'(by rw [HK.out]; omega), by simp⟩
                obtain ⟨b', hlk', hg'⟩ := hmx.got jm q' hml hq'
                have g0 : wr.cell? ⟨gb, jm, none⟩ = some (pv b') := cell_of_block hmx.gblk hg'
                obtain ⟨_, sv', hcb', _⟩ := hmx.inv.coh _ _ hlk'
                have hpe : (binOp .eql 30 (pv b') (pv b)).run Try.prog wr = .ok (.bool false) wr := by
                  rw [eql_ptr 30 wr b' b _ (equal30 wr b' b ⟨_, _, hcb'⟩ ⟨_, _, HCB.out⟩)]
                  have := HNE.out jm b' hml hg'
                  simp [this]
                have hjl : (jm : Int) < (len : Int) := by omega
                clear hq' hlk' hg' hcb'
                go_wp2
                go_round
                case rel => exact ⟨jm + 1, by omega, by go_num⟩
                case measure => simp [intOf]; omega
              · go_wp2_with fail
                have hmS := hmx.stored HQ.out HLK.out hlt hkg hgb
                refine (cohortCount_at hmS.A _ hmS.inv).mono ?_
                rintro e wc ⟨rfl, rfl⟩
                have hqs : (wr.setCell ⟨gb, k, none⟩ (pv b)).heap[qb]? = some (.cells #[.int .i64 t, .int .i64 n, .int .i64 st] 29) := (Below.heap_setCell _ _ _ _ hqg).trans HQX.out
                have s0 : (wr.setCell ⟨gb, k, none⟩ (pv b)).cell? ⟨qb, 0, none⟩ = some (.int .i64 t) := cell_of_block hqs rfl
                have s1 : (wr.setCell ⟨gb, k, none⟩ (pv b)).cell? ⟨qb, 1, none⟩ = some (.int .i64 n) := cell_of_block hqs rfl
                have s2 : (wr.setCell ⟨gb, k, none⟩ (pv b)).cell? ⟨qb, 2, none⟩ = some (.int .i64 st) := cell_of_block hqs rfl
                clear hqs
                go_wp2_with fail
                refine (cohortOf_at hmS.A t n st _ hmS.inv b HLK.out).mono ?_
                rintro e wc ⟨rfl, rfl⟩
                go_wp2
                go_roundw
                case rel => exact ⟨k + 1, L', _, by omega, by go_num, by rw [HLEN.out]; go_num, hmS⟩
                case measure => simp [intOf]; omega
    · have hkl : k = len := by omega
      have HL : Hid _ := hL
      clear hL
      go_wp2
      go_loopw [12] (fun j wx => ∃ jn : Nat, jn ≤ len ∧ j = .int .i64 jn ∧ Below wr.heap.size wr wx) (fun j _ => len - (intOf j).toNat)
      case atStart => exact ⟨0, Nat.zero_le _, rfl, Below.refl _ _⟩
      case round =>
        obtain ⟨jn, hjk, rfl, hbx⟩ := hrel
        have hmx := HL.out.kept hbx
        by_cases hjlt : jn < len
        · obtain ⟨⟨t', n', st'⟩, hq'⟩ : ∃ q, ks[jn]? = some q := ⟨ks[jn]'(by rw [HK.out]; omega), by simp⟩
          obtain ⟨b', hlk', hg'⟩ := hmx.got jn _ (by omega) hq'
          have c0 : wr.cell? ⟨kb, jn * 3, none⟩ = some (.int .i64 t') := row_cell hmx.kblk HKT.out (by rw [← Nat.add_zero (jn * 3), flat_get keyCells 3 (fun _ => rfl) ks jn 0 _ hq' (by omega)]; rfl)
          have c1 : wr.cell? ⟨kb, jn * 3 + 1, none⟩ = some (.int .i64 n') := row_cell hmx.kblk HKT.out (by rw [flat_get keyCells 3 (fun _ => rfl) ks jn 1 _ hq' (by omega)]; rfl)
          have c2 : wr.cell? ⟨kb, jn * 3 + 2, none⟩ = some (.int .i64 st') := row_cell hmx.kblk HKT.out (by rw [flat_get keyCells 3 (fun _ => rfl) ks jn 2 _ hq' (by omega)]; rfl)
          have g0 : wr.cell? ⟨gb, jn, none⟩ = some (pv b') := cell_of_block hmx.gblk hg'
          have hgl : gb < wr.heap.size := lt_of_cell g0
          have hnq := neq30_same b'
          have hjl : (jn : Int) < (len : Int) := by omega
          have hball := fun o : Obj => (Below.refl wr.heap.size wr).alloc (Nat.le_refl _) o
          have hcall := fun (o : Obj) (nq : Nat) => cohortOf_at hmx.A t' n' st' _ (hmx.inv.below (below_drewN (hball o) nq)) b' hlk'
          have HC : Hid _ := hcall
          have HX : Hid _ := hmx
          have HB : Hid _ := hball
          clear hq' hlk' hg' hmx hcall hball
          go_wp2
          go_quiet ((go_at_call 15; exact Calls.quiet_of_same (HC.out _ _)))
          go_wp2
          go_roundw
          case rel => exact ⟨jn + 1, by omega, by go_num, hbx.trans (below_drewN ((HB.out _).mono hbx.size) _)⟩
          case measure => simp [intOf]; omega
        · have hgd := guard39
          have HX : Hid _ := hmx
          clear hmx
          go_wp2_with fail
          refine (report0_at HX.out.A _ HX.out.inv).mono ?_
          rintro e wv ⟨rfl, hbv⟩
          have hmv := HX.out.kept hbv
          have HV : Hid _ := hmv
          clear hmv hbv
          go_wp2_with fail
          refine (accessCount0_at HV.out.A _ HV.out.inv).mono ?_
          rintro e wv ⟨rfl, rfl⟩
          go_wp2_with fail
          refine (pageCount0_at HV.out.A _ HV.out.inv HV.out.pag).mono ?_
          rintro e wv ⟨rfl, rfl⟩
          go_wp2_with fail
          refine (runCount0_at HV.out.A _ HV.out.inv HV.out.run).mono ?_
          rintro e wv ⟨rfl, rfl⟩
          go_wp2
          go_ret
          exact ⟨rfl, HV.out.below⟩
end Go.Proofs.Qxb6604372a
