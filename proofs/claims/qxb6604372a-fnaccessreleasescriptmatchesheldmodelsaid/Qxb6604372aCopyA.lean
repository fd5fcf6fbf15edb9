/-
  copyAccesses.
-/
import Derived.Test.Qxb6604372aCopy
import Derived.Test.Qxb6604372aPlain
namespace Go.Proofs.Qxb6604372a
open Go.ChangeShapes Go.WideShapes Go.ChangeAt Go.RowKit

/-- Cells laid one after another. -/
def setCells (w : World) (b o : Nat) : List Value → World
  | [] => w
  | v :: vs => setCells (w.setCell ⟨b, o, none⟩ v) b (o + 1) vs
theorem heap_setCells {b : Nat} {t : TypeId} {fz : Nat × Nat} : ∀ (vs : List Value) (w : World) (cur : Array Value) (o : Nat), w.heap[b]? = some (.cells cur t fz) → (setCells w b o vs).heap[b]? = some (.cells (putAt cur o vs) t fz)
  | [], _, _, _, h => h
  | v :: vs, _, _, o, h => heap_setCells vs _ _ (o + 1) (heap_setCell_same h o v)
theorem below_setCells {B b : Nat} (hB : B ≤ b) {a : World} : ∀ (vs : List Value) (w : World) (o : Nat), Below B a w → Below B a (setCells w b o vs)
  | [], _, _, h => h
  | v :: vs, _, o, h => below_setCells hB vs _ (o + 1) (h.setCell hB v)
theorem put8 (w : World) (b o : Nat) (v0 v1 v2 v3 v4 v5 v6 v7 : Value) : (((((((w.setCell ⟨b, o, none⟩ v0).setCell ⟨b, o + 1, none⟩ v1).setCell ⟨b, o + 2, none⟩ v2).setCell ⟨b, o + 3, none⟩ v3).setCell ⟨b, o + 4, none⟩ v4).setCell ⟨b, o + 5, none⟩ v5).setCell ⟨b, o + 6, none⟩ v6).setCell ⟨b, o + 7, none⟩ v7 = setCells w b o [v0, v1, v2, v3, v4, v5, v6, v7] := rfl

/-! ### copyAccesses -/
theorem info46 : (Try.prog.info? 46).map (fun i => (i.zero, i.size, i.bytes)) = some (some (.agg #[.int .i64 0, .int .i64 0, .int .i64 0, .int .i64 0, .bool false, .bool false, .int .i64 0, .int .i64 0]), 8, 56) := by kernel_rfl
set_option maxHeartbeats 1000000 in
theorem copyAcc_some (x : Addr) (len cap : Nat) (ks : List Ev) (w : World) (hlen : len ≤ 1024) (h : ElemsAt 8 evCells w (some x) len ks) :
    Calls Try.prog 21 #[.slice (some x) len cap] w fun e w' => ∃ v, e = .returned v ∧ w'.ownsRow w.heap.size 46 8 v len (ks.flatMap evCells) ∧ Below w.heap.size w w' := by
  obtain ⟨hks, _, hc⟩ := h
  obtain ⟨i0, hi, hz0, hz1, hz2⟩ := info_parts info46
  have he := fun w => Lib.run_eql_slice_nil (P := Try.prog) w 41 46 (some x) len cap 0 0 Try.underlying41
  have HC : Hid _ := hc
  have HK : Hid _ := hks
  clear hc hks
  go_enter Try.func21, Try.ntmps21
  go_wp2_with (at_make; refine wpList_make_full _ rfl _ _ 41 rfl w.heap.size 46 i0 (.agg #[.int .i64 0, .int .i64 0, .int .i64 0, .int .i64 0, .bool false, .bool false, .int .i64 0, .int .i64 0]) 8 Try.underlying41 hi hz0 hz1 .i64 .i64 _ _ len rfl rfl rfl rfl (by rw [hz2]; omega) (by unfold maxLen; omega) (Nat.le_refl _) ?_; intro w1 hown hgrow)
  have hcur : ∃ cur, w1.heap[w.heap.size]? = some (.cells cur 46 (0, 0)) ∧ cur.size = len * 8 ∧ cur.toList.take (0 * 8) = (ks.take 0).flatMap evCells := by
    rcases hown.2 with ⟨e, _⟩ | ⟨g, cp, cur, e, _, hh, _, _, hs, _⟩
    · cases e
    · cases e; exact ⟨cur, hh, hs, by simp⟩
  have hb1 : Below w.heap.size w w1 := (Below.refl _ _).grown hgrow (Nat.le_refl _) (by simp)
  clear hown hgrow hi hz0 hz1 hz2 he
  go_loopw [4] (fun i wr => ∃ k : Nat, k ≤ len ∧ i = .int .i64 k ∧ (∃ cur, wr.heap[w.heap.size]? = some (.cells cur 46 (0, 0)) ∧ cur.size = len * 8 ∧ cur.toList.take (k * 8) = (ks.take k).flatMap evCells) ∧ Below w.heap.size w wr) (fun i _ => len - (intOf i).toNat)
  case atStart => exact ⟨0, Nat.zero_le _, rfl, hcur, hb1⟩
  case round =>
    clear hcur hb1
    obtain ⟨k, hk, rfl, ⟨cur, hh, hs, ht⟩, hb⟩ := hrel
    by_cases hlt : k < len
    · obtain ⟨q, hq⟩ : ∃ q, ks[k]? = some q := ⟨ks[k]'(by rw [HK.out]; exact hlt), by simp⟩
      obtain ⟨b, off, hx, hcq⟩ := HC.out k q hq
      have c0 : w.cell? ⟨b, off + k * 8, none⟩ = some (.int .i64 q.txn) := hcq 0 _ rfl
      have c1 : w.cell? ⟨b, off + k * 8 + 1, none⟩ = some (.int .i64 q.n) := hcq 1 _ rfl
      have c2 : w.cell? ⟨b, off + k * 8 + 2, none⟩ = some (.int .i64 q.site) := hcq 2 _ rfl
      have c3 : w.cell? ⟨b, off + k * 8 + 3, none⟩ = some (.int .i64 q.page) := hcq 3 _ rfl
      have c4 : w.cell? ⟨b, off + k * 8 + 4, none⟩ = some (.bool q.upd) := hcq 4 _ rfl
      have c5 : w.cell? ⟨b, off + k * 8 + 5, none⟩ = some (.bool q.bor) := hcq 5 _ rfl
      have c6 : w.cell? ⟨b, off + k * 8 + 6, none⟩ = some (.int .i64 q.lt) := hcq 6 _ rfl
      have c7 : w.cell? ⟨b, off + k * 8 + 7, none⟩ = some (.int .i64 q.ln) := hcq 7 _ rfl
      cases hx
      clear hcq
      have hblt : b < w.heap.size := lt_of_cell c0
      rw [← hb.cell (by exact hblt)] at c0 c1 c2 c3 c4 c5 c6 c7
      obtain ⟨v0, d0⟩ := cell_some_of_block hh (o := k * 8) (by omega)
      obtain ⟨v1, d1⟩ := cell_some_of_block hh (o := k * 8 + 1) (by omega)
      obtain ⟨v2, d2⟩ := cell_some_of_block hh (o := k * 8 + 2) (by omega)
      obtain ⟨v3, d3⟩ := cell_some_of_block hh (o := k * 8 + 3) (by omega)
      obtain ⟨v4, d4⟩ := cell_some_of_block hh (o := k * 8 + 4) (by omega)
      obtain ⟨v5, d5⟩ := cell_some_of_block hh (o := k * 8 + 5) (by omega)
      obtain ⟨v6, d6⟩ := cell_some_of_block hh (o := k * 8 + 6) (by omega)
      obtain ⟨v7, d7⟩ := cell_some_of_block hh (o := k * 8 + 7) (by omega)
      have f := frozen_of_block hh
      have HH : Hid _ := hh
      have HT : Hid _ := ht
      have HQ : Hid _ := hq
      have HS : Hid _ := hs
      clear hh ht hq hs
      go_wp2
      have hsz := HS.out
      rw [put8]
      refine ⟨⟨k + 1, by omega, by go_num, ⟨putAt cur (k * 8) (evCells q), heap_setCells (evCells q) _ _ _ HH.out, by rw [putAt_size]; exact hsz, ?_⟩, below_setCells (Nat.le_refl _) (evCells q) _ _ hb⟩, by simp [intOf]; omega⟩
      rw [show (k + 1) * 8 = k * 8 + (evCells q).length by simp [evCells]; omega, putAt_take _ _ _ (by simp [evCells]; omega), HT.out, take_flat evCells HQ.out]
    · go_wp2
      go_ret
      have hkl : k = len := by omega
      subst hkl
      have hl := HK.out
      refine ⟨_, rfl, ⟨?_, .inr ⟨_, _, cur, rfl, Nat.le_refl _, hh, Nat.le_refl _, by unfold maxLen; omega, hs, ?_⟩⟩, hb⟩
      · rw [flat_length evCells 8 (fun _ => rfl), hl]
      · rw [ht, List.take_of_length_le (by omega)]
theorem copyAcc_any (a : Option Addr) (len cap : Nat) (ks : List Ev) (w : World) (h : ElemsAt 8 evCells w a len ks) (hlen : len ≤ 1024) :
    Calls Try.prog 21 #[.slice a len cap] w fun e w' => ∃ v, e = .returned v ∧ w'.ownsRow w.heap.size 46 8 v len (ks.flatMap evCells) ∧ Below w.heap.size w w' := by
  cases a with
  | none =>
    have hlen0 := h.2.1 rfl
    subst hlen0
    have he := fun w => Lib.run_eql_slice_nil (P := Try.prog) w 41 46 none 0 cap 0 0 Try.underlying41
    have hn : ks = [] := List.length_eq_zero_iff.1 h.1
    subst hn
    clear h
    go_enter Try.func21, Try.ntmps21
    go_wp2
    go_ret
    exact ⟨_, rfl, ⟨by simp, .inl ⟨rfl, rfl⟩⟩, Below.refl _ _⟩
  | some x => exact copyAcc_some x len cap ks w hlen h
end Go.Proofs.Qxb6604372a
