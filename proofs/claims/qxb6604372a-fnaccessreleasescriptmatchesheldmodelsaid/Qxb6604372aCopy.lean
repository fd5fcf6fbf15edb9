/-
  copyKeys, copyAccesses, copyOps: a slice of structs, copied into a row of the call's own.
-/
import Derived.Test.Qxb6604372aRead
import Derived.WalkLawsBesides
import Derived.WalkSpells
namespace Go.Proofs.Qxb6604372a
open Go.ChangeShapes Go.WideShapes Go.ChangeAt Go.RowKit

/-! ### Cells laid into a block -/
def putAt (c : Array Value) (o : Nat) : List Value → Array Value
  | [] => c
  | v :: vs => putAt (c.setIfInBounds o v) (o + 1) vs
theorem putAt_size : ∀ (vs : List Value) (c : Array Value) (o : Nat), (putAt c o vs).size = c.size
  | [], _, _ => rfl
  | v :: vs, c, o => by rw [putAt, putAt_size vs]; simp
theorem putAt_get : ∀ (vs : List Value) (c : Array Value) (o j : Nat), o + vs.length ≤ c.size → (putAt c o vs)[j]? = if o ≤ j ∧ j < o + vs.length then vs[j - o]? else c[j]?
  | [], c, o, j, _ => by rw [putAt, if_neg (by simp)]
  | v :: vs, c, o, j, h => by
    simp only [List.length_cons] at h
    rw [putAt, putAt_get vs _ _ _ (by simp; omega), Array.getElem?_setIfInBounds]
    by_cases h1 : o + 1 ≤ j ∧ j < o + 1 + vs.length
    · rw [if_pos h1, if_pos (by simp; omega)]
      obtain ⟨m, rfl⟩ : ∃ m, j = o + 1 + m := ⟨j - (o + 1), by omega⟩
      rw [show o + 1 + m - o = m + 1 by omega, show o + 1 + m - (o + 1) = m by omega, List.getElem?_cons_succ]
    · rw [if_neg h1]
      by_cases h2 : o = j
      · subst h2; rw [if_pos rfl, if_pos (by omega), if_pos (by simp)]; simp
      · rw [if_neg h2, if_neg (by simp; omega)]
theorem putAt_take (vs : List Value) (c : Array Value) (o : Nat) (h : o + vs.length ≤ c.size) : (putAt c o vs).toList.take (o + vs.length) = c.toList.take o ++ vs := by
  apply List.ext_getElem?
  intro j
  rw [List.getElem?_take, List.getElem?_append]
  have hl : (c.toList.take o).length = o := by simp; omega
  rw [hl]
  have hg := putAt_get vs c o j h
  by_cases h1 : j < o + vs.length
  · rw [if_pos h1, Array.getElem?_toList, hg]
    by_cases h2 : j < o
    · rw [if_pos h2, if_neg (by omega), List.getElem?_take, if_pos h2, Array.getElem?_toList]
    · rw [if_neg h2, if_pos (by omega)]
  · rw [if_neg h1, if_neg (by omega), List.getElem?_eq_none (by omega)]

theorem heap_setCell_same {w : World} {g : Nat} {c : Array Value} {e : TypeId} {fz : Nat × Nat} (h : w.heap[g]? = some (.cells c e fz)) (o : Nat) (v : Value) : (w.setCell ⟨g, o, none⟩ v).heap[g]? = some (.cells (c.setIfInBounds o v) e fz) := by
  simp [World.setCell, Array.getElem?_modify, h]
theorem cell_of_block {w : World} {g : Nat} {c : Array Value} {e : TypeId} {fz : Nat × Nat} (h : w.heap[g]? = some (.cells c e fz)) {o : Nat} {v : Value} (hc : c[o]? = some v) : w.cell? ⟨g, o, none⟩ = some v := by
  simp [World.cell?, h, hc]
theorem frozen_of_block {w : World} {g : Nat} {c : Array Value} {e : TypeId} (h : w.heap[g]? = some (.cells c e (0, 0))) (o : Nat) : w.frozen? ⟨g, o, none⟩ = false := by
  simp [World.frozen?, h]
theorem cell_some_of_block {w : World} {g : Nat} {c : Array Value} {e : TypeId} {fz : Nat × Nat} (h : w.heap[g]? = some (.cells c e fz)) {o : Nat} (ho : o < c.size) : ∃ v, w.cell? ⟨g, o, none⟩ = some v :=
  ⟨c[o], cell_of_block h (by simp [ho])⟩

theorem take_flat {α : Type} (f : α → List Value) {ks : List α} {k : Nat} {q : α} (hq : ks[k]? = some q) : (ks.take (k + 1)).flatMap f = (ks.take k).flatMap f ++ f q := by
  rw [List.take_add_one, hq]; simp
theorem flat_length {α : Type} (f : α → List Value) (m : Nat) (hf : ∀ x, (f x).length = m) (ks : List α) : (ks.flatMap f).length = ks.length * m := by
  induction ks with
  | nil => simp
  | cons x xs ih => rw [List.flatMap_cons, List.length_append, ih, hf, List.length_cons, Nat.succ_mul]; omega
/-! ### copyKeys -/
def keyCells (k : K3) : List Value := [.int .i64 k.1, .int .i64 k.2.1, .int .i64 k.2.2]
theorem info29 : (Try.prog.info? 29).map (fun i => (i.zero, i.size, i.bytes)) = some (some (.agg #[.int .i64 0, .int .i64 0, .int .i64 0]), 3, 24) := by kernel_rfl
/-- What is known of a slice that came in: its elements' cells. -/
def ElemsAt {α : Type} (m : Nat) (f : α → List Value) (w : World) (a : Option Addr) (len : Nat) (ks : List α) : Prop :=
  ks.length = len ∧ (a = none → len = 0) ∧ ∀ i q, ks[i]? = some q → ∃ b off, a = some ⟨b, off, none⟩ ∧ ∀ j v, (f q)[j]? = some v → w.cell? ⟨b, off + i * m + j, none⟩ = some v
abbrev KeysAt (w : World) (a : Option Addr) (len : Nat) (ks : List K3) : Prop := ElemsAt 3 keyCells w a len ks

set_option maxHeartbeats 1000000 in
theorem copyKeys_some (x : Addr) (len cap : Nat) (ks : List K3) (w : World) (hlen : len ≤ 4096) (h : KeysAt w (some x) len ks) :
    Calls Try.prog 9 #[.slice (some x) len cap] w fun e w' => ∃ v, e = .returned v ∧ w'.ownsRow w.heap.size 29 3 v len (ks.flatMap keyCells) ∧ Below w.heap.size w w' := by
  obtain ⟨hks, _, hc⟩ := h
  obtain ⟨i0, hi, hz0, hz1, hz2⟩ := info_parts info29
  have he := fun w => Lib.run_eql_slice_nil (P := Try.prog) w 22 29 (some x) len cap 0 0 Try.underlying22
  have HC : Hid _ := hc
  have HK : Hid _ := hks
  clear hc hks
  go_enter Try.func9, Try.ntmps9
  go_wp2_with (at_make; refine wpList_make_full _ rfl _ _ 22 rfl w.heap.size 29 i0 (.agg #[.int .i64 0, .int .i64 0, .int .i64 0]) 3 Try.underlying22 hi hz0 hz1 .i64 .i64 _ _ len rfl rfl rfl rfl (by rw [hz2]; omega) (by unfold maxLen; omega) (Nat.le_refl _) ?_; intro w1 hown hgrow)
  have hcur : ∃ cur, w1.heap[w.heap.size]? = some (.cells cur 29 (0, 0)) ∧ cur.size = len * 3 ∧ cur.toList.take (0 * 3) = (ks.take 0).flatMap keyCells := by
    rcases hown.2 with ⟨e, _⟩ | ⟨g, cp, cur, e, _, hh, _, _, hs, _⟩
    · cases e
    · cases e; exact ⟨cur, hh, hs, by simp⟩
  have hb1 : Below w.heap.size w w1 := (Below.refl _ _).grown hgrow (Nat.le_refl _) (by simp)
  clear hown hgrow hi hz0 hz1 hz2 he
  go_loopw [4] (fun i wr => ∃ k : Nat, k ≤ len ∧ i = .int .i64 k ∧ (∃ cur, wr.heap[w.heap.size]? = some (.cells cur 29 (0, 0)) ∧ cur.size = len * 3 ∧ cur.toList.take (k * 3) = (ks.take k).flatMap keyCells) ∧ Below w.heap.size w wr) (fun i _ => len - (intOf i).toNat)
  case atStart => exact ⟨0, Nat.zero_le _, rfl, hcur, hb1⟩
  case round =>
    clear hcur hb1
    obtain ⟨k, hk, rfl, ⟨cur, hh, hs, ht⟩, hb⟩ := hrel
    by_cases hlt : k < len
    · obtain ⟨q, hq⟩ : ∃ q, ks[k]? = some q := ⟨ks[k]'(by rw [HK.out]; exact hlt), by simp⟩
      obtain ⟨b, off, hx, hcq⟩ := HC.out k q hq
      have c0 : w.cell? ⟨b, off + k * 3, none⟩ = some (.int .i64 q.1) := hcq 0 _ rfl
      have c1 : w.cell? ⟨b, off + k * 3 + 1, none⟩ = some (.int .i64 q.2.1) := hcq 1 _ rfl
      have c2 : w.cell? ⟨b, off + k * 3 + 2, none⟩ = some (.int .i64 q.2.2) := hcq 2 _ rfl
      cases hx
      clear hcq
      have hblt : b < w.heap.size := lt_of_cell c0
      rw [← hb.cell (by exact hblt)] at c0 c1 c2
      obtain ⟨v0, d0⟩ := cell_some_of_block hh (o := k * 3) (by omega)
      obtain ⟨v1, d1⟩ := cell_some_of_block hh (o := k * 3 + 1) (by omega)
      obtain ⟨v2, d2⟩ := cell_some_of_block hh (o := k * 3 + 2) (by omega)
      have f := frozen_of_block hh
      have HH : Hid _ := hh
      have HT : Hid _ := ht
      have HQ : Hid _ := hq
      have HS : Hid _ := hs
      clear hh ht hq hs
      go_wp2
      have hsz := HS.out
      refine ⟨⟨k + 1, by omega, by go_num, ⟨putAt cur (k * 3) (keyCells q), heap_setCell_same (heap_setCell_same (heap_setCell_same HH.out _ _) _ _) _ _, by rw [putAt_size]; exact hsz, ?_⟩, ((hb.setCell (Nat.le_refl _) _).setCell (Nat.le_refl _) _).setCell (Nat.le_refl _) _⟩, by simp [intOf]; omega⟩
      rw [show (k + 1) * 3 = k * 3 + (keyCells q).length by simp [keyCells]; omega, putAt_take _ _ _ (by simp [keyCells]; omega), HT.out, take_flat keyCells HQ.out]
    · go_wp2
      go_ret
      have hkl : k = len := by omega
      subst hkl
      have hl := HK.out
      refine ⟨_, rfl, ⟨?_, .inr ⟨_, _, cur, rfl, Nat.le_refl _, hh, Nat.le_refl _, by unfold maxLen; omega, hs, ?_⟩⟩, hb⟩
      · rw [flat_length keyCells 3 (fun _ => rfl), hl]
      · rw [ht, List.take_of_length_le (by omega)]
theorem copyKeys_any (a : Option Addr) (len cap : Nat) (ks : List K3) (w : World) (h : KeysAt w a len ks) (hlen : len ≤ 4096) :
    Calls Try.prog 9 #[.slice a len cap] w fun e w' => ∃ v, e = .returned v ∧ w'.ownsRow w.heap.size 29 3 v len (ks.flatMap keyCells) ∧ Below w.heap.size w w' := by
  cases a with
  | none =>
    have hlen0 := h.2.1 rfl
    subst hlen0
    have he := fun w => Lib.run_eql_slice_nil (P := Try.prog) w 22 29 none 0 cap 0 0 Try.underlying22
    have hn : ks = [] := List.length_eq_zero_iff.1 h.1
    subst hn
    clear h
    go_enter Try.func9, Try.ntmps9
    go_wp2
    go_ret
    exact ⟨_, rfl, ⟨by simp, .inl ⟨rfl, rfl⟩⟩, Below.refl _ _⟩
  | some x => exact copyKeys_some x len cap ks w hlen h
end Go.Proofs.Qxb6604372a
