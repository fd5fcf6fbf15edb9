/-
  copyOps.
-/
import Derived.Test.Qxb6604372aCopyA
import Derived.Test.Qxb6604372aOps
namespace Go.Proofs.Qxb6604372a
open Go.ChangeShapes Go.WideShapes Go.ChangeAt Go.RowKit

theorem put10 (w : World) (b o : Nat) (v0 v1 v2 v3 v4 v5 v6 v7 v8 v9 : Value) : (((((((((w.setCell ⟨b, o, none⟩ v0).setCell ⟨b, o + 1, none⟩ v1).setCell ⟨b, o + 2, none⟩ v2).setCell ⟨b, o + 3, none⟩ v3).setCell ⟨b, o + 4, none⟩ v4).setCell ⟨b, o + 5, none⟩ v5).setCell ⟨b, o + 6, none⟩ v6).setCell ⟨b, o + 7, none⟩ v7).setCell ⟨b, o + 8, none⟩ v8).setCell ⟨b, o + 9, none⟩ v9 = setCells w b o [v0, v1, v2, v3, v4, v5, v6, v7, v8, v9] := rfl
theorem info53 : (Try.prog.info? 53).map (fun i => (i.zero, i.size, i.bytes)) = some (some (.agg #[.bool false, .int .i64 0, .int .i64 0, .int .i64 0, .int .i64 0, .int .i64 0, .bool false, .bool false, .int .i64 0, .int .i64 0]), 10, 72) := by kernel_rfl
set_option maxHeartbeats 1000000 in
theorem copyOps_some (x : Addr) (len cap : Nat) (ks : List OpE) (w : World) (hlen : len ≤ 1024) (h : ElemsAt 10 opCells w (some x) len ks) :
    Calls Try.prog 27 #[.slice (some x) len cap] w fun e w' => ∃ v, e = .returned v ∧ w'.ownsRow w.heap.size 53 10 v len (ks.flatMap opCells) ∧ Below w.heap.size w w' := by
  obtain ⟨hks, _, hc⟩ := h
  obtain ⟨i0, hi, hz0, hz1, hz2⟩ := info_parts info53
  have he := fun w => Lib.run_eql_slice_nil (P := Try.prog) w 50 53 (some x) len cap 0 0 Try.underlying50
  have HC : Hid _ := hc
  have HK : Hid _ := hks
  clear hc hks
  go_enter Try.func27, Try.ntmps27
  go_wp2_with (at_make; refine wpList_make_full _ rfl _ _ 50 rfl w.heap.size 53 i0 (.agg #[.bool false, .int .i64 0, .int .i64 0, .int .i64 0, .int .i64 0, .int .i64 0, .bool false, .bool false, .int .i64 0, .int .i64 0]) 10 Try.underlying50 hi hz0 hz1 .i64 .i64 _ _ len rfl rfl rfl rfl (by rw [hz2]; omega) (by unfold maxLen; omega) (Nat.le_refl _) ?_; intro w1 hown hgrow)
  have hcur : ∃ cur, w1.heap[w.heap.size]? = some (.cells cur 53 (0, 0)) ∧ cur.size = len * 10 ∧ cur.toList.take (0 * 10) = (ks.take 0).flatMap opCells := by
    rcases hown.2 with ⟨e, _⟩ | ⟨g, cp, cur, e, _, hh, _, _, hs, _⟩
    · cases e
    · cases e; exact ⟨cur, hh, hs, by simp⟩
  have hb1 : Below w.heap.size w w1 := (Below.refl _ _).grown hgrow (Nat.le_refl _) (by simp)
  clear hown hgrow hi hz0 hz1 hz2 he
  go_loopw [4] (fun i wr => ∃ k : Nat, k ≤ len ∧ i = .int .i64 k ∧ (∃ cur, wr.heap[w.heap.size]? = some (.cells cur 53 (0, 0)) ∧ cur.size = len * 10 ∧ cur.toList.take (k * 10) = (ks.take k).flatMap opCells) ∧ Below w.heap.size w wr) (fun i _ => len - (intOf i).toNat)
  case atStart => exact ⟨0, Nat.zero_le _, rfl, hcur, hb1⟩
  case round =>
    clear hcur hb1
    obtain ⟨k, hk, rfl, ⟨cur, hh, hs, ht⟩, hb⟩ := hrel
    by_cases hlt : k < len
    · obtain ⟨q, hq⟩ : ∃ q, ks[k]? = some q := ⟨ks[k]'(by rw [HK.out]; exact hlt), by simp⟩
      obtain ⟨b, off, hx, hcq⟩ := HC.out k q hq
      have c0 : w.cell? ⟨b, off + k * 10, none⟩ = some (.bool q.rel) := hcq 0 _ rfl
      have c1 : w.cell? ⟨b, off + k * 10 + 1, none⟩ = some (.int .i64 q.ix) := hcq 1 _ rfl
      have c2 : w.cell? ⟨b, off + k * 10 + 2, none⟩ = some (.int .i64 q.ev.txn) := hcq 2 _ rfl
      have c3 : w.cell? ⟨b, off + k * 10 + 3, none⟩ = some (.int .i64 q.ev.n) := hcq 3 _ rfl
      have c4 : w.cell? ⟨b, off + k * 10 + 4, none⟩ = some (.int .i64 q.ev.site) := hcq 4 _ rfl
      have c5 : w.cell? ⟨b, off + k * 10 + 5, none⟩ = some (.int .i64 q.ev.page) := hcq 5 _ rfl
      have c6 : w.cell? ⟨b, off + k * 10 + 6, none⟩ = some (.bool q.ev.upd) := hcq 6 _ rfl
      have c7 : w.cell? ⟨b, off + k * 10 + 7, none⟩ = some (.bool q.ev.bor) := hcq 7 _ rfl
      have c8 : w.cell? ⟨b, off + k * 10 + 8, none⟩ = some (.int .i64 q.ev.lt) := hcq 8 _ rfl
      have c9 : w.cell? ⟨b, off + k * 10 + 9, none⟩ = some (.int .i64 q.ev.ln) := hcq 9 _ rfl
      cases hx
      clear hcq
      have hblt : b < w.heap.size := lt_of_cell c0
      rw [← hb.cell (by exact hblt)] at c0 c1 c2 c3 c4 c5 c6 c7 c8 c9
      obtain ⟨v0, d0⟩ := cell_some_of_block hh (o := k * 10) (by omega)
      obtain ⟨v1, d1⟩ := cell_some_of_block hh (o := k * 10 + 1) (by omega)
      obtain ⟨v2, d2⟩ := cell_some_of_block hh (o := k * 10 + 2) (by omega)
      obtain ⟨v3, d3⟩ := cell_some_of_block hh (o := k * 10 + 3) (by omega)
      obtain ⟨v4, d4⟩ := cell_some_of_block hh (o := k * 10 + 4) (by omega)
      obtain ⟨v5, d5⟩ := cell_some_of_block hh (o := k * 10 + 5) (by omega)
      obtain ⟨v6, d6⟩ := cell_some_of_block hh (o := k * 10 + 6) (by omega)
      obtain ⟨v7, d7⟩ := cell_some_of_block hh (o := k * 10 + 7) (by omega)
      obtain ⟨v8, d8⟩ := cell_some_of_block hh (o := k * 10 + 8) (by omega)
      obtain ⟨v9, d9⟩ := cell_some_of_block hh (o := k * 10 + 9) (by omega)
      have f := frozen_of_block hh
      have HH : Hid _ := hh
      have HT : Hid _ := ht
      have HQ : Hid _ := hq
      have HS : Hid _ := hs
      clear hh ht hq hs
      go_wp2
      have hsz := HS.out
      rw [put10]
      refine ⟨⟨k + 1, by omega, by go_num, ⟨putAt cur (k * 10) (opCells q), heap_setCells (opCells q) _ _ _ HH.out, by rw [putAt_size]; exact hsz, ?_⟩, below_setCells (Nat.le_refl _) (opCells q) _ _ hb⟩, by simp [intOf]; omega⟩
      rw [show (k + 1) * 10 = k * 10 + (opCells q).length by simp [opCells, evCells]; omega, putAt_take _ _ _ (by simp [opCells, evCells]; omega), HT.out, take_flat opCells HQ.out]
    · go_wp2
      go_ret
      have hkl : k = len := by omega
      subst hkl
      have hl := HK.out
      refine ⟨_, rfl, ⟨?_, .inr ⟨_, _, cur, rfl, Nat.le_refl _, hh, Nat.le_refl _, by unfold maxLen; omega, hs, ?_⟩⟩, hb⟩
      · rw [flat_length opCells 10 (fun _ => rfl), hl]
      · rw [ht, List.take_of_length_le (by omega)]
theorem copyOps_any (a : Option Addr) (len cap : Nat) (ks : List OpE) (w : World) (h : ElemsAt 10 opCells w a len ks) (hlen : len ≤ 1024) :
    Calls Try.prog 27 #[.slice a len cap] w fun e w' => ∃ v, e = .returned v ∧ w'.ownsRow w.heap.size 53 10 v len (ks.flatMap opCells) ∧ Below w.heap.size w w' := by
  cases a with
  | none =>
    have hlen0 := h.2.1 rfl
    subst hlen0
    have he := fun w => Lib.run_eql_slice_nil (P := Try.prog) w 50 53 none 0 cap 0 0 Try.underlying50
    have hn : ks = [] := List.length_eq_zero_iff.1 h.1
    subst hn
    clear h
    go_enter Try.func27, Try.ntmps27
    go_wp2
    go_ret
    exact ⟨_, rfl, ⟨by simp, .inl ⟨rfl, rfl⟩⟩, Below.refl _ _⟩
  | some x => exact copyOps_some x len cap ks w hlen h
end Go.Proofs.Qxb6604372a
