/-
  The walk of FnAccessReleaseScriptMatchesHeldModel.
-/
import Derived.Test.Qxb6604372aScrO
import Derived.Test.Qxb6604372aLaw5
import Derived.Test.Qxb6604372aDel2
namespace Go.Proofs.Qxb6604372a
open Go.ChangeShapes Go.WideShapes Go.ChangeAt Go.RowKit

/-- The three rows behind k steps of the second loop. -/
structure L2 (w2 : World) (B eg ag rg n : Nat) (ops : List OpE) (k : Nat) (W : World) : Prop where
  ev : RowL W eg 46 (n * 8) ((accs (ops.take k)).flatMap evCells)
  ap : RowL W ag 3 n (ints (posF 0 (ops.take k)))
  rp : RowL W rg 3 n (ints (List.replicate (made ops k) (-1)))
  below : Below B w2 W
section
variable {w2 W : World} {B eg ag rg n : Nat} {ops : List OpE} {k : Nat} {o : OpE}
theorem L2.alloc (h : L2 w2 B eg ag rg n ops k W) (hB : B ≤ W.heap.size) (ob : Obj) : L2 w2 B eg ag rg n ops k (W.alloc ob) where
  ev := h.ev.of_block (Below.heap_alloc _ _ _ h.ev.lt)
  ap := h.ap.of_block (Below.heap_alloc _ _ _ h.ap.lt)
  rp := h.rp.of_block (Below.heap_alloc _ _ _ h.rp.lt)
  below := h.below.alloc hB _
theorem L2.skip (h : L2 w2 B eg ag rg n ops k W) (ho : ops[k]? = some o) (hr : o.rel = true) : L2 w2 B eg ag rg n ops (k + 1) W := by
  have e1 : accs (ops.take (k + 1)) = accs (ops.take k) := by rw [accs_take ho, hr]; simp
  have e2 : posF 0 (ops.take (k + 1)) = posF 0 (ops.take k) := by rw [posF_take ho, hr]; simp
  have e3 : made ops (k + 1) = made ops k := by rw [made_succ ho, hr]; simp
  exact ⟨by rw [e1]; exact h.ev, by rw [e2]; exact h.ap, by rw [e3]; exact h.rp, h.below⟩
theorem L2.step (h : L2 w2 B eg ag rg n ops k W) (ho : ops[k]? = some o) (hr : o.rel = false) (hn : made ops k < n) (h1 : eg < ag) (h2 : ag < rg) (hB : B ≤ eg) :
    L2 w2 B eg ag rg n ops (k + 1) (((setCells W eg (made ops k * 8) (evCells o.ev)).setCell ⟨ag, made ops k, none⟩ (.int .i64 k)).setCell ⟨rg, made ops k, none⟩ (.int .i64 (-1))) := by
  have hk := (List.getElem?_eq_some_iff.1 ho).1
  have hlen := made_length ops k (by omega)
  have e1 : (accs (ops.take (k + 1))).flatMap evCells = (accs (ops.take k)).flatMap evCells ++ evCells o.ev := by rw [accs_take ho, hr]; simp
  have e2 : ints (posF 0 (ops.take (k + 1))) = ints (posF 0 (ops.take k)) ++ [.int .i64 (k : Int)] := by rw [posF_take ho, hr]; simp [ints]
  have e3 : ints (List.replicate (made ops (k + 1)) (-1)) = ints (List.replicate (made ops k) (-1)) ++ [.int .i64 (-1)] := by
    rw [made_succ ho, hr]
    simp [ints, List.replicate_succ']
  have l1 : ((accs (ops.take k)).flatMap evCells).length = made ops k * 8 := by rw [flat_length evCells 8 (fun _ => rfl), hlen]
  have l2 : (ints (posF 0 (ops.take k))).length = made ops k := by rw [ints, List.length_map, posF_length, hlen]
  have l3 : (ints (List.replicate (made ops k) (-1))).length = made ops k := by simp [ints]
  have p1 := h.ev.put (evCells o.ev) (by rw [l1]; simp [evCells]; omega)
  rw [l1] at p1
  refine ⟨?_, ?_, ?_, ?_⟩
  · rw [e1]
    exact p1.of_block (by rw [Below.heap_setCell _ _ _ _ (by show eg ≠ rg; omega), Below.heap_setCell _ _ _ _ (by show eg ≠ ag; omega)])
  · rw [e2]
    have q1 : RowL (setCells W eg (made ops k * 8) (evCells o.ev)) ag 3 n (ints (posF 0 (ops.take k))) := h.ap.of_block (heap_setCells_other (by omega) _ _ _)
    have q2 := q1.put [.int .i64 (k : Int)] (by rw [l2]; simp; omega)
    rw [l2] at q2
    exact q2.of_block (by rw [Below.heap_setCell _ _ _ _ (by show ag ≠ rg; omega)]; rfl)
  · rw [e3]
    have q1 : RowL ((setCells W eg (made ops k * 8) (evCells o.ev)).setCell ⟨ag, made ops k, none⟩ (.int .i64 k)) rg 3 n (ints (List.replicate (made ops k) (-1))) := h.rp.of_block (by rw [Below.heap_setCell _ _ _ _ (by show rg ≠ ag; omega), heap_setCells_other (by omega)])
    have q2 := q1.put [.int .i64 (-1)] (by rw [l3]; simp; omega)
    rw [l3] at q2
    exact q2
  · exact ((below_setCells hB _ _ _ h.below).setCell (by show B ≤ ag; omega) _).setCell (by show B ≤ rg; omega) _
end
theorem made_rowL {w : World} {base g q : Nat} {t : TypeId} {size : Nat} {l : List Value} (h : w.ownsRow base t size (.slice (some ⟨g, 0, none⟩) q q) q l) : RowL w g t (q * size) [] := by
  rcases h.2 with ⟨e, _⟩ | ⟨g, cp, cur, e, _, hh, _, _, hs, _⟩
  · cases e
  · cases e; exact ⟨cur, hh, hs, rfl⟩
theorem RowL.cellAt {w : World} {g : Nat} {t : TypeId} {size : Nat} {l : List Value} (h : RowL w g t size l) {p : Nat} (hp : p < size) : ∃ v, w.cell? ⟨g, p, none⟩ = some v := by
  obtain ⟨cur, hh, hs, _⟩ := h
  exact cell_some_of_block hh (by omega)
theorem RowL.froz {w : World} {g : Nat} {t : TypeId} {size : Nat} {l : List Value} (h : RowL w g t size l) : ∀ p, w.frozen? ⟨g, p, none⟩ = false := by
  obtain ⟨cur, hh, _⟩ := h
  exact frozen_of_block hh
attribute [local go_sem ↓] equal39_lit
set_option maxRecDepth 100000 in
set_option maxHeartbeats 4000000 in
theorem law6_small (a : Option Addr) (len cap : Nat) (ops : List OpE) (w : World) (h : ElemsAt 10 opCells w a len ops) (hl : len ≤ 1024) :
    Calls Try.prog 6 #[.slice a len cap] w fun e w' => e = .returned (.bool true) ∧ Below w.heap.size w w' := by
  obtain ⟨i0, hi, hz0, hz1, hz2⟩ := info_parts info3'
  obtain ⟨i1, yi, yz0, yz1, yz2⟩ := info_parts info46
  have HK : Hid (ops.length = len) := h.1
  have HEL : Hid (ElemsAt 10 opCells w a len ops) := h
  have hd : decide ((1024 : Int) < (len : Int)) = false := by simp; omega
  clear h
  go_enter Try.func6, Try.ntmps6
  go_wp2_with fail
  refine (zzBytes26 a len cap _ (by unfold maxLen; omega)).mono ?_
  rintro r w1 ⟨rfl, rfl⟩
  have hdd : decide (len ≤ 1048576) = true := by simp; omega
  rw [hdd]
  clear hdd
  go_wp2
  go_loopw [3, 4] (fun m i W => ∃ k : Nat, k ≤ len ∧ i = .int .i64 k ∧ m = .int .i64 (made ops k) ∧ W = w1 ∧ Hid (∀ p, p < k → okOp ops p)) (fun _ i _ => len - (intOf i).toNat)
  case atStart => exact ⟨0, Nat.zero_le _, rfl, rfl, rfl, fun p hp => absurd hp (Nat.not_lt_zero _)⟩
  case round =>
    obtain ⟨k, hk, rfl, rfl, rfl, HOK⟩ := hrel
    have hml : made ops k ≤ k := cnt_le _ _
    by_cases hlt : k < len
    · obtain ⟨o, ho⟩ : ∃ e, ops[k]? = some e := ⟨ops[k]'(by rw [HK.out]; exact hlt), by simp⟩
      obtain ⟨b, off, hab, hc⟩ := HEL.out.2.2 k o ho
      subst hab
      have c0 : wr.cell? ⟨b, off + k * 10, none⟩ = some (.bool o.rel) := hc 0 _ rfl
      have c1 : wr.cell? ⟨b, off + k * 10 + 1, none⟩ = some (.int .i64 o.ix) := hc 1 _ rfl
      have hbl := lt_of_cell c0
      have HMS : Hid (made ops (k + 1) = made ops k + if o.rel then 0 else 1) := made_succ ho
      have HO : Hid (ops[k]? = some o) := ho
      clear hc ho
      obtain ⟨rl, hrl⟩ : ∃ b, o.rel = b := ⟨_, rfl⟩
      rw [hrl] at c0 HMS
      have HRL : Hid (o.rel = rl) := hrl
      clear hrl
      have HNX : Hid (okOp ops k → ∀ p, p < k + 1 → okOp ops p) := fun h p hp => by
        by_cases e : p = k
        · subst e; exact h
        · exact HOK.out p (by omega)
      obtain ⟨mk, hmk⟩ : ∃ m, made ops k = m := ⟨_, rfl⟩
      have HMK : Hid (made ops k = mk) := hmk
      rw [hmk] at HMS hml ⊢
      clear hmk
      obtain ⟨x, hx⟩ : ∃ x, o.ix = x := ⟨_, rfl⟩
      rw [hx] at c1
      have HX : Hid (o.ix = x) := hx
      clear hx
      cases rl
      · have HMS : Hid (made ops (k + 1) = mk + 1) := HMS
        go_wp2
        refine ⟨⟨k + 1, hlt, by go_num, by rw [HMS.out]; go_num, trivial, HNX.out (fun o' ho' hr' => ?_)⟩, by simp [intOf]; omega⟩
        rw [HO.out] at ho'
        cases ho'
        rw [HRL.out] at hr'
        cases hr'
      · have HMS : Hid (made ops (k + 1) = mk) := HMS
        by_cases h0 : x < 0
        · go_wp2
          go_ret
          exact ⟨rfl, Below.refl _ _⟩
        by_cases h1 : (mk : Int) ≤ x
        · go_wp2
          go_ret
          exact ⟨rfl, Below.refl _ _⟩
        go_wp2
        refine ⟨⟨k + 1, hlt, by go_num, by rw [HMS.out], trivial, HNX.out (fun o' ho' _ => ?_)⟩, by simp [intOf]; omega⟩
        rw [HO.out] at ho'
        cases ho'
        rw [HX.out, HMK.out]
        omega
    · have hkl : k = len := by omega
      subst hkl
      obtain ⟨n, hn⟩ : ∃ n, made ops k = n := ⟨_, rfl⟩
      have HN : Hid ((accs ops).length = n) := by show _ = _; rw [made_all, HK.out]; exact hn
      have HNN : Hid (made ops k = n) := hn
      rw [hn] at hml ⊢
      clear hn hlt hk
      go_wp2_with fail
      refine (copyOps_any a k cap ops _ HEL.out hl).mono ?_
      rintro r w2 ⟨v, rfl, hown, hb2⟩
      obtain ⟨oa, oc, rfl, hor⟩ := opRow_of_owns hown HK.out
      have HOR : Hid (0 < ops.length → ∃ g, oa = some ⟨g, 0, none⟩ ∧ OpRow w2 g ops) := hor
      have HB2 : Hid (Below wr.heap.size wr w2) := hb2
      clear hown hor hb2 HEL
      go_wp2_with (at_make; first
        | (refine wpList_make_full _ rfl _ _ 41 rfl w2.heap.size 46 i1 (.agg #[.int .i64 0, .int .i64 0, .int .i64 0, .int .i64 0, .bool false, .bool false, .int .i64 0, .int .i64 0]) 8 Try.underlying41 yi yz0 yz1 .i64 .i64 _ _ n rfl rfl rfl rfl (by rw [yz2]; omega) (by unfold maxLen; omega) (Nat.le_refl _) ?_; intro w3 hown3 hgrow3)
        | (refine wpList_make_full _ rfl _ _ 33 rfl w3.heap.size 3 i0 (.int .i64 0) 1 Try.underlying33 hi hz0 hz1 .i64 .i64 _ _ n rfl rfl rfl rfl (by rw [hz2]; omega) (by unfold maxLen; omega) (Nat.le_refl _) ?_; intro w4 hown4 hgrow4)
        | (refine wpList_make_full _ rfl _ _ 33 rfl w4.heap.size 3 i0 (.int .i64 0) 1 Try.underlying33 hi hz0 hz1 .i64 .i64 _ _ n rfl rfl rfl rfl (by rw [hz2]; omega) (by unfold maxLen; omega) (Nat.le_refl _) ?_; intro w5 hown5 hgrow5))
      have hst : L2 w2 w2.heap.size w2.heap.size w3.heap.size w4.heap.size n ops 0 w5 ∧ w2.heap.size < w3.heap.size ∧ w3.heap.size < w4.heap.size := by
        have hb3 : Below w2.heap.size w2 w3 := (Below.refl _ _).grown hgrow3 (Nat.le_refl _) (by simp)
        have hb4 : Below w3.heap.size w3 w4 := (Below.refl _ _).grown hgrow4 (Nat.le_refl _) (by simp)
        have hb5 : Below w4.heap.size w4 w5 := (Below.refl _ _).grown hgrow5 (Nat.le_refl _) (by simp)
        have r3 := made_rowL hown3
        have r4 := made_rowL hown4
        have r5 := made_rowL hown5
        rw [Nat.mul_one] at r4 r5
        refine ⟨⟨?_, ?_, r5, hb3.trans ((hb4.trans (hb5.mono hb4.size)).mono hb3.size)⟩, r3.lt, r4.lt⟩
        · exact r3.of_block ((hb5.block _ (Nat.lt_of_lt_of_le r3.lt hb4.size)).trans (hb4.block _ r3.lt))
        · exact r4.of_block (hb5.block _ r4.lt)
      obtain ⟨hst, hea, har⟩ := hst
      have HST : Hid (L2 w2 w2.heap.size w2.heap.size w3.heap.size w4.heap.size n ops 0 w5) := hst
      clear hst hown3 hown4 hown5 hgrow3 hgrow4 hgrow5 hi hz0 hz1 hz2 yi yz0 yz1 yz2
      obtain ⟨ag, hag⟩ : ∃ ag, w3.heap.size = ag := ⟨_, rfl⟩
      obtain ⟨rg, hrg⟩ : ∃ rg, w4.heap.size = rg := ⟨_, rfl⟩
      rw [hag] at HST hea har ⊢
      rw [hrg] at HST har ⊢
      clear hag hrg
      obtain ⟨Wc, hWc⟩ : ∃ Wc, Wc = wr := ⟨_, rfl⟩
      subst hWc
      go_loopw [8, 9] (fun m i W => ∃ j : Nat, j ≤ k ∧ i = .int .i64 j ∧ m = .int .i64 (made ops j) ∧ Hid (L2 w2 w2.heap.size w2.heap.size ag rg n ops j W)) (fun _ i _ => k - (intOf i).toNat)
      case atStart => exact ⟨0, Nat.zero_le _, rfl, rfl, HST⟩
      case round =>
        clear HST
        obtain ⟨j, hj, rfl, rfl, HL⟩ := hrel
        by_cases hlt : j < k
        · obtain ⟨o, ho⟩ : ∃ e, ops[j]? = some e := ⟨ops[j]'(by rw [HK.out]; exact hlt), by simp⟩
          obtain ⟨og, hoa, hor⟩ := HOR.out (by rw [HK.out]; omega)
          subst hoa
          obtain ⟨c0, c1, c2, c3, c4, c5, c6, c7, c8, c9⟩ := OpRow.at (OpRow.kept hor HL.out.below) ho
          have hlg : og < wr.heap.size := lt_of_cell c0
          have HO : Hid (ops[j]? = some o) := ho
          have HBW : Hid (w2.heap.size ≤ wr.heap.size) := HL.out.below.size
          have hle : made ops j ≤ n := by rw [← HNN.out]; exact made_mono ops (by omega)
          have HMS : Hid (made ops (j + 1) = made ops j + if o.rel then 0 else 1) := made_succ ho
          have hmn : o.rel = false → made ops j < n := fun hr => by
            have h1 : made ops (j + 1) ≤ n := by rw [← HNN.out]; exact made_mono ops (by omega)
            rw [HMS.out, hr] at h1
            exact h1
          clear ho hor
          obtain ⟨rl, hrl⟩ : ∃ b, o.rel = b := ⟨_, rfl⟩
          rw [hrl] at c0 HMS hmn
          have HRL : Hid (o.rel = rl) := hrl
          clear hrl
          obtain ⟨mk, hmk⟩ : ∃ m, made ops j = m := ⟨_, rfl⟩
          have HMK : Hid (made ops j = mk) := hmk
          rw [hmk] at HMS hle hmn ⊢
          clear hmk
          cases rl
          · have HMS : Hid (made ops (j + 1) = mk + 1) := HMS
            have hlt2 : mk < n := hmn rfl
            clear hmn hle
            obtain ⟨v0, d0⟩ := HL.out.ev.cellAt (p := mk * 8) (by omega)
            obtain ⟨v1, d1⟩ := HL.out.ev.cellAt (p := mk * 8 + 1) (by omega)
            obtain ⟨v2, d2⟩ := HL.out.ev.cellAt (p := mk * 8 + 2) (by omega)
            obtain ⟨v3, d3⟩ := HL.out.ev.cellAt (p := mk * 8 + 3) (by omega)
            obtain ⟨v4, d4⟩ := HL.out.ev.cellAt (p := mk * 8 + 4) (by omega)
            obtain ⟨v5, d5⟩ := HL.out.ev.cellAt (p := mk * 8 + 5) (by omega)
            obtain ⟨v6, d6⟩ := HL.out.ev.cellAt (p := mk * 8 + 6) (by omega)
            obtain ⟨v7, d7⟩ := HL.out.ev.cellAt (p := mk * 8 + 7) (by omega)
            obtain ⟨va, da⟩ := HL.out.ap.cellAt (p := mk) hlt2
            obtain ⟨vr, dr⟩ := HL.out.rp.cellAt (p := mk) hlt2
            have fe := HL.out.ev.froz
            have fa := HL.out.ap.froz
            have fr := HL.out.rp.froz
            have le := HL.out.ev.lt
            have la := HL.out.ap.lt
            have lr := HL.out.rp.lt
            have n1 : ¬ w2.heap.size = ag := by omega
            have n2 : ¬ w2.heap.size = rg := by omega
            have n3 : ¬ ag = rg := by omega
            have n4 : ¬ ag = w2.heap.size := by omega
            have n5 : ¬ rg = w2.heap.size := by omega
            have n6 : ¬ rg = ag := by omega
            go_wp2
            go_roundw
            case rel =>
              refine ⟨j + 1, hlt, by go_num, by rw [HMS.out]; go_num, ?_⟩
              rw [put8]
              have := HL.out.step HO.out HRL.out (by rw [HMK.out]; exact hlt2) hea har (Nat.le_refl _)
              rw [HMK.out] at this
              exact this.alloc this.below.size _
            case measure => simp [intOf]; omega
          · have HMS : Hid (made ops (j + 1) = mk) := HMS
            go_wp2
            go_roundw
            case rel => exact ⟨j + 1, hlt, by go_num, by rw [HMS.out], (HL.out.alloc HBW.out _).skip HO.out HRL.out⟩
            case measure => simp [intOf]; omega
        · have hjk : j = k := by omega
          subst hjk
          have hbj : Below w2.heap.size w2 wr := HL.out.below
          have htk : ops.take j = ops := List.take_of_length_le (by rw [HK.out]; omega)
          have hme := HL.out.ev.full
          have hma := HL.out.ap.full
          have hmr := HL.out.rp.full
          rw [htk] at hme hma
          have HBE : Hid (wr.heap[w2.heap.size]? = some (.cells ((accs ops).flatMap evCells).toArray 46 (0, 0))) := hme (by rw [flat_length evCells 8 (fun _ => rfl), HN.out])
          have HBA : Hid (wr.heap[ag]? = some (.cells (ints (posF 0 ops)).toArray 3 (0, 0))) := hma (by rw [ints, List.length_map, posF_length, HN.out])
          have HBR : Hid (wr.heap[rg]? = some (.cells (ints (rpsAt ops n 0)).toArray 3 (0, 0))) := by
            show _ = _
            rw [rpsAt_zero]
            have := hmr (by rw [HNN.out]; simp [ints])
            rw [HNN.out] at this
            exact this
          have HOR2 : Hid (0 < ops.length → ∃ g, oa = some ⟨g, 0, none⟩ ∧ OpRow wr g ops ∧ g < rg) := by
            intro h0
            obtain ⟨g, e, hg⟩ := HOR.out h0
            refine ⟨g, e, hg.kept hbj, ?_⟩
            obtain ⟨o, ho⟩ : ∃ o, ops[0]? = some o := ⟨ops[0], by simp⟩
            have := lt_of_cell (hg 0 o ho 0 _ rfl)
            exact Nat.lt_trans this (Nat.lt_trans hea har)
          have HB3 : Hid (Below Wc.heap.size Wc wr) := HB2.out.trans (hbj.mono HB2.out.size)
          have hwe : Wc.heap.size ≤ w2.heap.size := HB2.out.size
          clear HL hbj htk hme hma hmr HOR HB2 hlt hj
          generalize w2.heap.size = eg at *
          obtain ⟨W3, hW3⟩ : ∃ W3, W3 = wr := ⟨_, rfl⟩
          subst hW3
          go_wp2
          go_loopw [11] (fun x W => ∃ q : Nat, q ≤ j ∧ x = .int .i64 q ∧ Hid (W.heap[rg]? = some (.cells (ints (rpsAt ops n q)).toArray 3 (0, 0)) ∧ Below rg W3 W)) (fun x _ => j - (intOf x).toNat)
          case atStart => exact ⟨0, Nat.zero_le _, rfl, HBR.out, Below.refl _ _⟩
          case round =>
            obtain ⟨q, hq, rfl, HR⟩ := hrel
            by_cases hqlt : q < j
            · obtain ⟨o, ho⟩ : ∃ e, ops[q]? = some e := ⟨ops[q]'(by rw [HK.out]; exact hqlt), by simp⟩
              obtain ⟨og, hoa, hor, hogl⟩ := HOR2.out (by rw [HK.out]; omega)
              subst hoa
              obtain ⟨c0, c1, _, _, _, _, _, _, _, _⟩ := OpRow.at hor ho
              rw [← HR.out.2.cell (p := ⟨og, q * 10, none⟩) hogl] at c0
              rw [← HR.out.2.cell (p := ⟨og, q * 10 + 1, none⟩) hogl] at c1
              have hlg : og < wr.heap.size := lt_of_cell c0
              have HO : Hid (ops[q]? = some o) := ho
              clear ho hor
              rcases bool_ft o.rel with hr | hr
              · rw [hr] at c0
                have HRL : Hid (o.rel = false) := hr
                clear hr
                go_wp2
                go_roundw
                case rel => exact ⟨q + 1, hqlt, by go_num, by show _ ∧ _; rw [rps_acc HO.out HRL.out]; exact HR.out⟩
                case measure => simp [intOf]; omega
              · rw [hr] at c0
                have HRL : Hid (o.rel = true) := hr
                clear hr
                obtain ⟨h0, h1⟩ := HOK.out q hqlt o HO.out HRL.out
                obtain ⟨i, hi⟩ := Int.eq_ofNat_of_zero_le h0
                have hi' : o.ix = (i : Int) := hi
                have hin : i < n := by
                  have h2 := made_mono ops (show q ≤ j by omega)
                  rw [HNN.out] at h2
                  omega
                rw [hi'] at c1
                have HI : Hid (o.ix = (i : Int)) := hi'
                clear h0 h1 hi hi'
                have g1 : wr.cell? ⟨rg, i, none⟩ = some (.int .i64 (rpOf ops q i)) := intRow_of_full HR.out.1 i _ (by rw [rpsAt, List.getElem?_map, List.getElem?_range hin]; rfl)
                have f1 := frozen_of_block HR.out.1
                have hlr : rg < wr.heap.size := lt_of_cell g1
                obtain ⟨x, hx⟩ : ∃ x, rpOf ops q i = x := ⟨_, rfl⟩
                rw [hx] at g1
                have HX : Hid (rpOf ops q i = x) := hx
                clear hx
                rcases bool_ft (x == -1) with s0 | s0
                · have s0' : ¬ x = -1 := by simpa using s0
                  go_wp2
                  go_roundw
                  case rel => exact ⟨q + 1, hqlt, by go_num, by show _ ∧ _; rw [rps_old HO.out HI.out (by rw [HX.out]; exact s0')]; exact HR.out⟩
                  case measure => simp [intOf]; omega
                · have s0' : x = -1 := by simpa using s0
                  subst s0'
                  go_wp2
                  go_roundw
                  case rel =>
                    refine ⟨q + 1, hqlt, by go_num, ?_, HR.out.2.setCell (Nat.le_refl _) _⟩
                    rw [rps_new HO.out HRL.out HI.out HX.out, row_set HR.out.1]
                    simp only [ints, List.map_set]
                  case measure => simp [intOf]; omega
            · have hqj : q = j := by omega
              subst hqj
              have HEV : Hid (EvRow wr eg (accs ops)) := evRow_of_full ((HR.out.2.block eg (by omega)).trans HBE.out)
              have HAP : Hid (IntRow wr ag (posF 0 ops)) := intRow_of_full ((HR.out.2.block ag har).trans HBA.out)
              have HRP : Hid (IntRow wr rg (rpsAt ops n q)) := intRow_of_full HR.out.1
              have HOR3 : Hid (0 < ops.length → ∃ g, oa = some ⟨g, 0, none⟩ ∧ OpRow wr g ops) := by
                intro h0
                obtain ⟨g, e, hg, hgl⟩ := HOR2.out h0
                refine ⟨g, e, fun i o ho j v hv => ?_⟩
                rw [HR.out.2.cell (p := ⟨g, i * 10 + j, none⟩) hgl]; exact hg i o ho j v hv
              have HB4 : Hid (Below Wc.heap.size Wc wr) := by
                exact HB3.out.trans (HR.out.2.mono (by omega))
              clear HR HOR2 HBE HBA HBR HB3 hqlt hq
              go_wp2_with fail
              refine (newAuditor_any wr (base := wr.heap.size) (Nat.le_refl _)).mono ?_
              rintro r w6 ⟨L0, rfl, hinv, hb4, hc0, hp0, hr0, _⟩
              have HS : Hid (ScrO wr L0.A ops 0 L0 w6) := ScrO.start hinv hb4 hc0 hp0 hr0
              clear hinv hb4 hc0 hp0 hr0
              generalize hAA : L0.A = A at *
              clear hAA
              obtain ⟨W0, hW0⟩ : ∃ W0, W0 = wr := ⟨_, rfl⟩
              subst hW0
              go_wp2
              go_loopw [14] (fun x W => ∃ (t : Nat) (L : Lay), t ≤ q ∧ x = .int .i64 t ∧ Hid (ScrO W0 A ops t L W)) (fun x _ => q - (intOf x).toNat)
              case atStart => exact ⟨0, L0, Nat.zero_le _, rfl, HS⟩
              case round =>
                clear HS
                obtain ⟨t, L, ht, rfl, HS⟩ := hrel
                by_cases htlt : t < q
                · obtain ⟨o, ho⟩ : ∃ e, ops[t]? = some e := ⟨ops[t]'(by rw [HK.out]; exact htlt), by simp⟩
                  obtain ⟨og, hoa, hor⟩ := HOR3.out (by rw [HK.out]; omega)
                  subst hoa
                  obtain ⟨c0, c1, c2, c3, c4, c5, c6, c7, c8, c9⟩ := OpRow.at (OpRow.kept hor HS.out.below) ho
                  have hlg : og < wr.heap.size := lt_of_cell c0
                  have HO : Hid (ops[t]? = some o) := ho
                  have HSA : Hid (∀ ob, ScrO W0 A ops t L (wr.alloc ob)) := fun ob => HS.out.kept ((Below.refl _ _).alloc (Nat.le_refl _) _)
                  clear ho hor HS
                  rcases bool_ft o.rel with hr | hr
                  · rw [hr] at c0
                    have HRL : Hid (o.rel = false) := hr
                    clear hr
                    go_wp2_with fail
                    refine (access_o (HSA.out _) HO.out HRL.out (by rw [HK.out]; exact hl) (fun p hp => HOK.out p (by omega))).mono ?_
                    rintro r w7 ⟨rfl, L', HS'⟩
                    have HS' : Hid (ScrO W0 A ops (t + 1) L' w7) := HS'
                    clear HSA HO HRL
                    go_wp2
                    go_roundw
                    case rel => exact ⟨t + 1, L', by omega, by go_num, HS'⟩
                    case measure => simp [intOf]; omega
                  · rw [hr] at c0
                    have HRL : Hid (o.rel = true) := hr
                    clear hr
                    go_wp2_with fail
                    refine (release_o (HSA.out _) HO.out HRL.out (by rw [HK.out]; exact hl) (HOK.out t htlt)).mono ?_
                    rintro r w7 ⟨rfl, L', HS'⟩
                    have HS' : Hid (ScrO W0 A ops (t + 1) L' w7) := HS'
                    clear HSA HO HRL
                    go_wp2
                    go_roundw
                    case rel => exact ⟨t + 1, L', by omega, by go_num, HS'⟩
                    case measure => simp [intOf]; omega
                · have htq : t = q := by omega
                  subst htq
                  have HS1 : Hid (ScrSt W0.heap.size (accs ops) (relAt ops t) (cnt (cfM (accs ops) (posF 0 ops) (rpsAt ops n t)) n) (cnt (chM (accs ops)) n) [] L wr) := by
                    have h1 := HS.out
                    rw [← HK.out] at h1
                    have h2 := h1.all
                    rw [HN.out, HK.out] at h2
                    exact h2
                  have HA1 : Hid (L.A = A) := HS.out.A
                  have HB5 : Hid (Below W0.heap.size W0 wr) := HS.out.below
                  have HRR : Hid (∀ (j : Nat) x, (rpsAt ops n t)[j]? = some x → (x = -1 ↔ relAt ops t j = false)) := by
                    have := rps_rel ops n
                    rw [HK.out] at this
                    exact this
                  have H25 : Hid (∀ W, Below W0.heap.size W0 W → Calls Try.prog 25 #[.slice (some ⟨eg, 0, none⟩) n n, .slice (some ⟨ag, 0, none⟩) n n, .slice (some ⟨rg, 0, none⟩) n n] W fun r w' => r = .returned (.agg (rep8 (cnt (cfM (accs ops) (posF 0 ops) (rpsAt ops n t)) n) (cnt (chM (accs ops)) n))) ∧ Below W.heap.size W w') := by
                    intro W hb
                    have := modelReport_any (evs := accs ops) (posF 0 ops) (rpsAt ops n t) (posF_length _ _) (by rw [HN.out]; simp [rpsAt]) (some ⟨eg, 0, none⟩) (some ⟨ag, 0, none⟩) (some ⟨rg, 0, none⟩) n n n W (fun _ => ⟨eg, rfl, EvRow.kept HEV.out hb⟩) (fun _ => ⟨ag, rfl, IntRow.kept HAP.out hb⟩) (fun _ => ⟨rg, rfl, IntRow.kept HRP.out hb⟩) (by rw [HN.out]; omega)
                    rw [HN.out] at this
                    exact this
                  have H23 : Hid (∀ (lc cv : Int) W, Below W0.heap.size W0 W → ScrSt W0.heap.size (accs ops) (relAt ops t) lc cv [] L W → Calls Try.prog 23 #[pv A, .slice (some ⟨eg, 0, none⟩) n n, .slice (some ⟨rg, 0, none⟩) n n, .int .i64 0] W fun r w' => r = .returned (.bool true) ∧ Below W.heap.size W w') := by
                    intro lc cv W hb hs
                    have := stateMatches_any (rpsAt ops n t) (some ⟨eg, 0, none⟩) (some ⟨rg, 0, none⟩) n n A W hs HA1.out (fun _ => ⟨eg, rfl, EvRow.kept HEV.out hb⟩) (fun _ => ⟨rg, rfl, IntRow.kept HRP.out hb⟩) (by rw [HN.out]; simp [rpsAt]) HRR.out (by rw [HN.out]; omega) (by simp)
                    rw [HN.out] at this
                    exact this
                  have H16 : Hid (∀ (lc cv : Int) W, ScrSt W0.heap.size (accs ops) (relAt ops t) lc cv [] L W → Calls Try.prog 16 #[pv A] W fun e w' => e = .returned (.agg (rep8 lc cv)) ∧ Below W.heap.size W w') := by
                    intro lc cv W h; have := report_any W h.inv; rw [HA1.out] at this; exact this
                  obtain ⟨lc, hlc⟩ : ∃ x : Int, (cnt (cfM (accs ops) (posF 0 ops) (rpsAt ops n t)) n : Int) = x := ⟨_, rfl⟩
                  obtain ⟨cv, hcv⟩ : ∃ x : Int, (cnt (chM (accs ops)) n : Int) = x := ⟨_, rfl⟩
                  rw [hlc, hcv] at HS1 H25
                  clear hlc hcv HS htlt ht HRR
                  go_wp2_with fail
                  refine (H16.out lc cv wr HS1.out).mono ?_
                  rintro r w5 ⟨rfl, hb5⟩
                  have HS1 : Hid (ScrSt W0.heap.size (accs ops) (relAt ops t) lc cv [] L w5) := HS1.out.below hb5
                  have HB5 : Hid (Below W0.heap.size W0 w5) := HB5.out.trans (hb5.mono HB5.out.size)
                  clear hb5
                  go_wp2_with fail
                  refine (H25.out w5 HB5.out).mono ?_
                  rintro r w6 ⟨rfl, hb6⟩
                  have HS1 : Hid (ScrSt W0.heap.size (accs ops) (relAt ops t) lc cv [] L w6) := HS1.out.below hb6
                  have HB5 : Hid (Below W0.heap.size W0 w6) := HB5.out.trans (hb6.mono HB5.out.size)
                  clear hb6
                  have hgd := guard39
                  go_wp2_with fail
                  refine (H23.out lc cv w6 HB5.out HS1.out).mono ?_
                  rintro r w7 ⟨rfl, hb7⟩
                  have HB7 : Hid (Below W0.heap.size W0 w7) := HB5.out.trans (hb7.mono HB5.out.size)
                  clear hb7
                  go_wp2
                  go_ret
                  exact ⟨rfl, HB4.out.trans (HB7.out.mono HB4.out.size)⟩
end Go.Proofs.Qxb6604372a
