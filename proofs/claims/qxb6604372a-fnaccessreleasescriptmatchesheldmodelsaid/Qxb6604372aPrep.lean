/-
  What the laws on scripts have in common: zzBytes, rows of numbers, readings kept.
-/
import Derived.Test.Qxb6604372aScr
import Derived.Test.Qxb6604372aCopyA
import Derived.Test.Qxb6604372aLaw3
namespace Go.Proofs.Qxb6604372a
open Go.ChangeShapes Go.WideShapes Go.ChangeAt Go.RowKit

theorem zzBytes20 (a : Option Addr) (len cap : Nat) (q0 q1 q2 : Value) (w : World) (hl : len ≤ maxLen) : Calls Try.prog 20 #[.slice a len cap, .agg #[q0, q1, q2]] w fun e w' => e = .returned (.bool (decide (len ≤ 1048576))) ∧ Below w.heap.size w w' := by
  unfold maxLen at hl
  by_cases h : len ≤ 1048576
  · go_enter Try.func20, Try.ntmps20
    go_wp2
    go_ret
    exact ⟨by simp [h], (Below.refl _ _).alloc (Nat.le_refl _) _⟩
  · go_enter Try.func20, Try.ntmps20
    go_wp2
    go_ret
    exact ⟨by simp [h], (Below.refl _ _).alloc (Nat.le_refl _) _⟩
theorem zzBytes24 (a : Option Addr) (len cap : Nat) (w : World) (hl : len ≤ maxLen) : Calls Try.prog 24 #[.slice a len cap] w fun e w' => e = .returned (.bool (decide (len ≤ 1048576))) ∧ w' = w := by
  unfold maxLen at hl
  by_cases h : len ≤ 1048576
  · go_enter Try.func24, Try.ntmps24
    go_wp2
    go_ret
    simp [h]
  · go_enter Try.func24, Try.ntmps24
    go_wp2
    go_ret
    simp [h]
theorem zzBytes26 (a : Option Addr) (len cap : Nat) (w : World) (hl : len ≤ maxLen) : Calls Try.prog 26 #[.slice a len cap] w fun e w' => e = .returned (.bool (decide (len ≤ 1048576))) ∧ w' = w := by
  unfold maxLen at hl
  by_cases h : len ≤ 1048576
  · go_enter Try.func26, Try.ntmps26
    go_wp2
    go_ret
    simp [h]
  · go_enter Try.func26, Try.ntmps26
    go_wp2
    go_ret
    simp [h]
theorem zzBytes30 (a : Option Addr) (len cap : Nat) (q : Value) (w : World) (hl : len ≤ maxLen) : Calls Try.prog 30 #[.slice a len cap, q] w fun e w' => e = .returned (.bool (decide (len ≤ 1048576))) ∧ w' = w := by
  unfold maxLen at hl
  by_cases h : len ≤ 1048576
  · go_enter Try.func30, Try.ntmps30
    go_wp2
    go_ret
    simp [h]
  · go_enter Try.func30, Try.ntmps30
    go_wp2
    go_ret
    simp [h]
theorem ElemsAt.kept {α : Type} {m : Nat} {f : α → List Value} {w w' : World} {a : Option Addr} {len : Nat} {ks : List α} (h : ElemsAt m f w a len ks) (hb : Below w.heap.size w w') : ElemsAt m f w' a len ks := by
  refine ⟨h.1, h.2.1, fun i q hi => ?_⟩
  obtain ⟨b, off, e, hc⟩ := h.2.2 i q hi
  refine ⟨b, off, e, fun j v hv => ?_⟩
  have := hc j v hv
  rw [hb.cell (lt_of_cell this)]; exact this
/-- A row that holds the number x in its first k places. -/
def Filled (w : World) (g len : Nat) (x : Int) (k : Nat) : Prop := ∃ cur : Array Value, w.heap[g]? = some (.cells cur 3 (0, 0)) ∧ cur.size = len ∧ ∀ j, j < k → cur[j]? = some (.int .i64 x)
theorem Filled.start {w : World} {g len : Nat} {x : Int} {cur : Array Value} (h : w.heap[g]? = some (.cells cur 3 (0, 0))) (hs : cur.size = len * 1) : Filled w g len x 0 := ⟨cur, h, by simpa using hs, fun j hj => absurd hj (Nat.not_lt_zero _)⟩
theorem Filled.store {w : World} {g len : Nat} {x : Int} {k : Nat} (h : Filled w g len x k) (hk : k < len) : Filled (w.setCell ⟨g, k, none⟩ (.int .i64 x)) g len x (k + 1) := by
  obtain ⟨cur, hh, hs, hc⟩ := h
  refine ⟨_, heap_setCell_same hh _ _, by simpa using hs, fun j hj => ?_⟩
  rw [Array.getElem?_setIfInBounds]
  by_cases e : k = j
  · rw [if_pos e, if_pos (by omega)]
  · rw [if_neg e]; exact hc j (by omega)
theorem Filled.row {w : World} {g len : Nat} {x : Int} (h : Filled w g len x len) : IntRow w g (List.replicate len x) := by
  obtain ⟨cur, hh, hs, hc⟩ := h
  intro i y hi
  rw [List.getElem?_replicate] at hi
  split at hi
  · cases hi; exact cell_of_block hh (hc i (by assumption))
  · cases hi
theorem r0_replicate (n : Nat) : ∀ (j : Nat) x, (List.replicate n (-1 : Int))[j]? = some x → (x = -1 ↔ r0 j = false) := by
  intro j x h
  rw [List.getElem?_replicate] at h
  split at h
  · cases h; simp [r0]
  · cases h
theorem key_of_lookup {K : Type} [BEq K] [LawfulBEq K] {k : K} {b : Nat} : ∀ {l : List (K × Nat)}, l.lookup k = some b → k ∈ l.map (·.1)
  | [], h => by cases h
  | (k', b') :: l, h => by
    rw [List.lookup_cons] at h
    by_cases e : k = k'
    · subst e; simp
    · have : (k == k') = false := by simpa using e
      rw [this] at h
      exact List.mem_cons_of_mem _ (key_of_lookup h)
theorem ScrSt.ask {base : Nat} {evs : List Ev} {rel : Nat → Bool} {lc cv : Int} {L L' : Lay} {W W' : World} {q : K3} {b n : Nat} (h : ScrSt base evs rel lc cv [] L W) (hinv : Inv base L' (stOf evs rel lc cv) W') (hp : L'.pag = L.pag) (hr : L'.run = L.run)
    (hor : L' = L ∨ L.coh.lookup q = none ∧ n ≤ b ∧ L'.coh = L.coh ++ [(q, b)]) (hlk : L'.coh.lookup q = some b) : ∃ ex : List K3, ScrSt base evs rel lc cv ex L' W' ∧ ex.length = if evs.any (fun e => e.ck == q) then 0 else 1 := by
  have hk : L.coh.map (·.1) = firsts Ev.ck evs := by have := congrArg (·.2.1) h.keys; simpa [keysL, keysOf] using this
  rcases hor with rfl | ⟨h1, _, h2⟩
  · refine ⟨[], ⟨hinv, h.keys⟩, ?_⟩
    have := key_of_lookup hlk
    rw [hk] at this
    rw [← contains_firsts, List.contains_iff_mem.2 this]
    rfl
  · refine ⟨[q], ⟨hinv, ?_⟩, ?_⟩
    · have h3 := h.keys
      simp only [keysL, keysOf, List.append_nil, Prod.mk.injEq] at h3 ⊢
      refine ⟨by rw [hp]; exact h3.1, by rw [h2, List.map_append, h3.2.1]; rfl, by rw [hr]; exact h3.2.2⟩
    · have : (firsts Ev.ck evs).contains q = false := by
        cases hc : (firsts Ev.ck evs).contains q with
        | false => rfl
        | true =>
          have := List.contains_iff_mem.1 hc
          rw [← hk] at this
          obtain ⟨b', hb'⟩ := lookup_of_mem this
          rw [h1] at hb'; cases hb'
      rw [contains_firsts] at this
      rw [this]; rfl
theorem info3' : (Try.prog.info? 3).map (fun i => (i.zero, i.size, i.bytes)) = some (some (.int .i64 0), 1, 8) := by kernel_rfl
end Go.Proofs.Qxb6604372a
