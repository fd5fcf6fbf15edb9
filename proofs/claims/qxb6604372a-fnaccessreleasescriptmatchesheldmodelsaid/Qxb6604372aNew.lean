/-
  ZZnewAuditor, ZZcohort.
-/
import Derived.Test.Qxb6604372aCopy
namespace Go.Proofs.Qxb6604372a
open Go.ChangeShapes Go.WideShapes Go.ChangeAt Go.RowKit

def st0 : St := ⟨0, 0, [], fun _ => [], fun _ => [], fun _ => [], fun _ => []⟩
def own0 (n : Nat) : Nat → Option Tag := fun b => if b = n + 4 then some (0, 0, 0, 0) else if b = n + 1 then some (1, 0, 0, 0) else if b = n + 2 then some (2, 0, 0, 0) else if b = n + 3 then some (3, 0, 0, 0) else none
def lay0 (n : Nat) : Lay := ⟨own0 n, n + 4, n, n + 1, n + 2, n + 3, [], [], []⟩

abbrev newW (w : World) : World := ((((w.alloc (.map #[] 0)).alloc (.map #[] 0)).alloc (.map #[] 0)).alloc (.map #[] 0)).alloc (.cells (audCells (lay0 w.heap.size) st0 (.slice none 0 0)) 64)
theorem newW_at (w : World) (i : Nat) (hi : i < 4) : (newW w).heap[w.heap.size + i]? = some (.map #[] 0) := by
  unfold newW
  rw [Below.heap_alloc _ _ _ (by simp; omega)]
  match i, hi with
  | 3, _ => exact heap_at _ _ (by simp)
  | 2, _ => rw [Below.heap_alloc _ _ _ (by simp)]; exact heap_at _ _ (by simp)
  | 1, _ => rw [Below.heap_alloc _ _ _ (by simp), Below.heap_alloc _ _ _ (by simp)]; exact heap_at _ _ (by simp)
  | 0, _ => rw [Below.heap_alloc _ _ _ (by simp; omega), Below.heap_alloc _ _ _ (by simp; omega), Below.heap_alloc _ _ _ (by simp)]; exact heap_at _ _ (by simp)
theorem newW_inv (w : World) {base : Nat} (hb : base ≤ w.heap.size) : Inv base (lay0 w.heap.size) st0 (newW w) where
  lt b t ho := by
    have hs : (newW w).heap.size = w.heap.size + 5 := by simp
    rw [hs]
    simp only [lay0, own0] at ho
    split at ho
    · omega
    · split at ho
      · omega
      · split at ho
        · omega
        · split at ho
          · omega
          · cases ho
  tA := by simp [lay0, own0]
  tR := by simp [lay0, own0]
  tC := by simp [lay0, own0]
  tP := by simp [lay0, own0]
  aud := ⟨.slice none 0 0, heap_at _ _ (by simp [lay0]), row_nil ..⟩
  R := ⟨#[], 0, newW_at w 1 (by omega), rfl⟩
  C := ⟨#[], 0, newW_at w 2 (by omega), rfl⟩
  P := ⟨#[], 0, newW_at w 3 (by omega), rfl⟩
  coh k b e := by cases e
  pag k b e := by cases e
  run k b e := by cases e
  coh0 _ _ := rfl
  pag0 _ _ := ⟨rfl, rfl⟩
  run0 _ _ := rfl

set_option maxHeartbeats 400000 in
theorem newAuditor_any (w : World) {base : Nat} (hb : base ≤ w.heap.size) :
    Calls Try.prog 10 #[] w fun e w' => ∃ L, e = .returned (pv L.A) ∧ Inv base L st0 w' ∧ Below w.heap.size w w' ∧ L.coh = [] ∧ L.pag = [] ∧ L.run = [] ∧ ∀ b, b < w.heap.size → L.own b = none := by
  have hmm := @run_makeMap Try.prog
  go_enter Try.func10, Try.ntmps10
  go_wp2
  go_ret
  refine ⟨lay0 w.heap.size, rfl, newW_inv w hb, ?_, rfl, rfl, rfl, fun b h => ?_⟩
  · exact (((((Below.refl _ _).alloc (Nat.le_refl _) _).alloc (by simp) _).alloc (by simp; omega) _).alloc (by simp; omega) _).alloc (by simp; omega) _
  · simp only [lay0, own0]
    rw [if_neg (by omega), if_neg (by omega), if_neg (by omega), if_neg (by omega)]

section
variable {base : Nat} {L : Lay} {s : St}
theorem zcohort_any (t n st : Int) (w : World) (h : Inv base L s w) :
    Calls Try.prog 11 #[pv L.A, .int .i64 t, .int .i64 n, .int .i64 st] w fun e w' => ∃ L' b, e = .returned (pv b) ∧ L'.coh.lookup (t, n, st) = some b ∧ Ext w.heap.size L L' ∧ Inv base L' s w' ∧ Fr L.own w w' ∧
      L'.pag = L.pag ∧ L'.run = L.run ∧ (L' = L ∨ L.coh.lookup (t, n, st) = none ∧ w.heap.size ≤ b ∧ L'.coh = L.coh ++ [((t, n, st), b)]) := by
  go_enter Try.func11, Try.ntmps11
  go_wp2_with fail
  refine (cohort_any t n st _ h).mono ?_
  rintro e w' ⟨L', b, rfl, h1⟩
  have H1 : Hid _ := h1
  clear h1
  go_wp2
  go_ret
  exact ⟨L', b, rfl, H1.out⟩
end
theorem zzBytes8 (a : Option Addr) (len cap : Nat) (w : World) (hl : len ≤ maxLen) : Calls Try.prog 8 #[.slice a len cap] w fun e w' => e = .returned (.bool (decide (len ≤ 1048576))) ∧ w' = w := by
  unfold maxLen at hl
  by_cases h : len ≤ 1048576
  · go_enter Try.func8, Try.ntmps8
    go_wp2
    go_ret
    simp [h]
  · go_enter Try.func8, Try.ntmps8
    go_wp2
    go_ret
    simp [h]
end Go.Proofs.Qxb6604372a
