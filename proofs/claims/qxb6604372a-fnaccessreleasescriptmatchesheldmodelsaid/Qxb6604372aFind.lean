/-
  THE THREE FIND-OR-MAKE METHODS (cohort, page, run), at the level of blocks.
-/
import Derived.Test.Qxb6604372aInv
import Derived.BigQuiet
import Derived.Deep.QuietTactic
import Derived.Deep.RegionHeld3
import Derived.Deep.DrawnRows
namespace Go.Proofs.Qxb6604372a
open Go.ChangeShapes Go.WideShapes Go.ChangeAt Go.RowKit

theorem lt_of_cell {w : World} {a : Addr} {v : Value} (h : w.cell? a = some v) : a.block < w.heap.size := World.block_lt_of_cell? w a h

set_option maxHeartbeats 400000 in
theorem cohort_found (A C : Nat) (l : List (K3 × Nat)) (t n st : Int) (b : Nat) (w : World) (cA : w.cell? ⟨A, 10, none⟩ = some (.map (some C))) (hC : MapIs k3 w C l) (hl : l.lookup (t, n, st) = some b) :
    Calls Try.prog 31 #[pv A, .agg #[.int .i64 t, .int .i64 n], .int .i64 st] w fun e w' => e = .returned (pv b) ∧ Below w.heap.size w w' := by
  have hA : A < w.heap.size := lt_of_cell cA
  have hA1 : A < w.heap.size + 1 := by omega
  have hlk : ∀ nq, (Instr.lookup 60 (.map (some C)) (.agg #[.int .i64 t, .int .i64 n, .int .i64 st]) false).run Try.prog (((w.alloc (.cells #[.int .i64 t, .int .i64 n] 67)).alloc (.cells #[.int .i64 t, .int .i64 n, .int .i64 st] 71)).drewN nq) = .ok (pv b) (((w.alloc (.cells #[.int .i64 t, .int .i64 n] 67)).alloc (.cells #[.int .i64 t, .int .i64 n, .int .i64 st] 71)).drewN nq) := by
    intro nq
    have hlt := hC.lt
    rw [lookup60 _ C l (hC.of_block (by show (((w.alloc _).alloc _)).heap[C]? = _; rw [Below.heap_alloc _ _ _ (by simp; omega), Below.heap_alloc _ _ _ hlt])), hl]; rfl
  clear hC hl
  go_enter Try.func31, Try.ntmps31
  go_wp2
  go_quiet (fail)
  go_wp2
  go_ret
  exact ⟨rfl, (((Below.refl _ _).alloc (Nat.le_refl _) _).alloc (by simp) _).trans ⟨rfl, rfl, rfl, Nat.le_refl _, fun _ _ => rfl⟩⟩

theorem setBlock_other (w : World) (r : Nat) (o : Obj) {k : Nat} (h : k ≠ r) : (ChangeMaps.setBlock w r o).heap[k]? = w.heap[k]? := by
  simp only [ChangeMaps.setBlock, Array.getElem?_setIfInBounds]
  rw [if_neg (Ne.symm h)]
theorem setBlock_size (w : World) (r : Nat) (o : Obj) : (ChangeMaps.setBlock w r o).heap.size = w.heap.size := by simp [ChangeMaps.setBlock]
theorem heap_at (w : World) (o : Obj) {n : Nat} (h : n = w.heap.size) : (w.alloc o).heap[n]? = some o := by
  subst h
  exact (MapKept.heap_alloc w o).1
theorem grown_new {w : World} {C : Nat} (o1 o2 o3 o : Obj) (nq : Nat) : w.grownBy (ChangeMaps.setBlock ((((w.alloc o1).alloc o2).drewN nq).alloc o3).drew C o) (some C) := by
  refine ⟨rfl, rfl, rfl, ?_, fun k hk hne => ?_⟩
  · rw [setBlock_size]; show _ ≤ ((((w.alloc o1).alloc o2).drewN nq).alloc o3).heap.size; simp; omega
  · have hk' : k ≠ C := fun e => hne (by rw [e])
    rw [setBlock_other _ _ _ hk']
    show ((((w.alloc o1).alloc o2).drewN nq).alloc o3).heap[k]? = _
    rw [Below.heap_alloc _ _ _ (by simp; omega), World.heap_drewN, Below.heap_alloc _ _ _ (by simp; omega), Below.heap_alloc _ _ _ hk]
theorem new_block {w : World} {C : Nat} (hC : C < w.heap.size) (o1 o2 o3 o : Obj) (nq : Nat) : (ChangeMaps.setBlock ((((w.alloc o1).alloc o2).drewN nq).alloc o3).drew C o).heap[w.heap.size + 2]? = some o3 := by
  rw [setBlock_other _ _ _ (by omega)]
  show ((((w.alloc o1).alloc o2).drewN nq).alloc o3).heap[_]? = _
  exact heap_at _ _ (by simp)
set_option maxHeartbeats 400000 in
theorem cohort_new (A C : Nat) (l : List (K3 × Nat)) (t n st : Int) (w : World) (cA : w.cell? ⟨A, 10, none⟩ = some (.map (some C))) (hC : MapIs k3 w C l) (hl : l.lookup (t, n, st) = none) :
    Calls Try.prog 31 #[pv A, .agg #[.int .i64 t, .int .i64 n], .int .i64 st] w fun e w' => e = .returned (pv (w.heap.size + 2)) ∧ w.grownBy w' (some C) ∧ w'.heap[w.heap.size + 2]? = some (.cells #[.slice none 0 0, .bool false] 69) ∧ MapIs k3 w' C (l ++ [((t, n, st), w.heap.size + 2)]) := by
  have hA : A < w.heap.size := lt_of_cell cA
  have hA1 : A < w.heap.size + 1 := by omega
  have hlt := hC.lt
  have hlk : ∀ nq, (Instr.lookup 60 (.map (some C)) (.agg #[.int .i64 t, .int .i64 n, .int .i64 st]) false).run Try.prog (((w.alloc (.cells #[.int .i64 t, .int .i64 n] 67)).alloc (.cells #[.int .i64 t, .int .i64 n, .int .i64 st] 71)).drewN nq) = .ok (.pointer none) (((w.alloc (.cells #[.int .i64 t, .int .i64 n] 67)).alloc (.cells #[.int .i64 t, .int .i64 n, .int .i64 st] 71)).drewN nq) := by
    intro nq
    rw [lookup60 _ C l (hC.of_block (by show (((w.alloc _).alloc _)).heap[C]? = _; rw [Below.heap_alloc _ _ _ (by simp; omega), Below.heap_alloc _ _ _ hlt])), hl]; rfl
  go_enter Try.func31, Try.ntmps31
  go_wp2
  go_quiet (fail)
  go_wp2
  obtain ⟨o, hup, hmap⟩ := update60 ((((w.alloc (.cells #[.int .i64 t, .int .i64 n] 67)).alloc (.cells #[.int .i64 t, .int .i64 n, .int .i64 st] 71)).drewN nq).alloc (.cells #[.slice none 0 0, .bool false] 69)).drew C l (hC.of_block (by
    show ((((w.alloc _).alloc _).drewN nq).alloc _).heap[C]? = _
    rw [Below.heap_alloc _ _ _ (by simp; omega), World.heap_drewN, Below.heap_alloc _ _ _ (by simp; omega), Below.heap_alloc _ _ _ hlt])) t n st hl (w.heap.size + 1 + 1)
  have hmap' : Hid _ := hmap
  clear hmap hC hl
  go_region
  go_wp2
  go_ret
  exact ⟨rfl, grown_new .., new_block hlt .., hmap'.out⟩

/-! ### One box ahead of the look-up (page, run) -/
theorem grown_new1 {w : World} {C : Nat} (o1 o3 o : Obj) (nq : Nat) : w.grownBy (ChangeMaps.setBlock (((w.alloc o1).drewN nq).alloc o3).drew C o) (some C) := by
  refine ⟨rfl, rfl, rfl, ?_, fun k hk hne => ?_⟩
  · rw [setBlock_size]; show _ ≤ (((w.alloc o1).drewN nq).alloc o3).heap.size; simp; omega
  · have hk' : k ≠ C := fun e => hne (by rw [e])
    rw [setBlock_other _ _ _ hk']
    show (((w.alloc o1).drewN nq).alloc o3).heap[k]? = _
    rw [Below.heap_alloc _ _ _ (by simp; omega), World.heap_drewN, Below.heap_alloc _ _ _ hk]
theorem new_block1 {w : World} {C : Nat} (hC : C < w.heap.size) (o1 o3 o : Obj) (nq : Nat) : (ChangeMaps.setBlock (((w.alloc o1).drewN nq).alloc o3).drew C o).heap[w.heap.size + 1]? = some o3 := by
  rw [setBlock_other _ _ _ (by omega)]
  show (((w.alloc o1).drewN nq).alloc o3).heap[_]? = _
  exact heap_at _ _ (by simp)

set_option maxHeartbeats 400000 in
theorem page_found (A C : Nat) (l : List (K2 × Nat)) (t n : Int) (b : Nat) (w : World) (cA : w.cell? ⟨A, 11, none⟩ = some (.map (some C))) (hC : MapIs k2 w C l) (hl : l.lookup (t, n) = some b) :
    Calls Try.prog 49 #[pv A, .agg #[.int .i64 t, .int .i64 n]] w fun e w' => e = .returned (pv b) ∧ Below w.heap.size w w' := by
  have hA : A < w.heap.size := lt_of_cell cA
  have hlk : ∀ nq, (Instr.lookup 61 (.map (some C)) (.agg #[.int .i64 t, .int .i64 n]) false).run Try.prog ((w.alloc (.cells #[.int .i64 t, .int .i64 n] 84)).drewN nq) = .ok (pv b) ((w.alloc (.cells #[.int .i64 t, .int .i64 n] 84)).drewN nq) := by
    intro nq
    have hlt := hC.lt
    rw [lookup61 _ C l (hC.of_block (by show (w.alloc _).heap[C]? = _; rw [Below.heap_alloc _ _ _ hlt])), hl]; rfl
  clear hC hl
  go_enter Try.func49, Try.ntmps49
  go_wp2
  go_quiet (fail)
  go_wp2
  go_ret
  exact ⟨rfl, ((Below.refl _ _).alloc (Nat.le_refl _) _).trans ⟨rfl, rfl, rfl, Nat.le_refl _, fun _ _ => rfl⟩⟩
set_option maxHeartbeats 400000 in
theorem page_new (A C : Nat) (l : List (K2 × Nat)) (t n : Int) (w : World) (cA : w.cell? ⟨A, 11, none⟩ = some (.map (some C))) (hC : MapIs k2 w C l) (hl : l.lookup (t, n) = none) :
    Calls Try.prog 49 #[pv A, .agg #[.int .i64 t, .int .i64 n]] w fun e w' => e = .returned (pv (w.heap.size + 1)) ∧ w.grownBy w' (some C) ∧ w'.heap[w.heap.size + 1]? = some (.cells #[.slice none 0 0, .slice none 0 0] 99) ∧ MapIs k2 w' C (l ++ [((t, n), w.heap.size + 1)]) := by
  have hA : A < w.heap.size := lt_of_cell cA
  have hlt := hC.lt
  have hlk : ∀ nq, (Instr.lookup 61 (.map (some C)) (.agg #[.int .i64 t, .int .i64 n]) false).run Try.prog ((w.alloc (.cells #[.int .i64 t, .int .i64 n] 84)).drewN nq) = .ok (.pointer none) ((w.alloc (.cells #[.int .i64 t, .int .i64 n] 84)).drewN nq) := by
    intro nq
    rw [lookup61 _ C l (hC.of_block (by show (w.alloc _).heap[C]? = _; rw [Below.heap_alloc _ _ _ hlt])), hl]; rfl
  go_enter Try.func49, Try.ntmps49
  go_wp2
  go_quiet (fail)
  go_wp2
  obtain ⟨o, hup, hmap⟩ := update61 ((((w.alloc (.cells #[.int .i64 t, .int .i64 n] 84)).drewN nq).alloc (.cells #[.slice none 0 0, .slice none 0 0] 99)).drew) C l (hC.of_block (by
    show (((w.alloc _).drewN nq).alloc _).heap[C]? = _
    rw [Below.heap_alloc _ _ _ (by simp; omega), World.heap_drewN, Below.heap_alloc _ _ _ hlt])) t n hl (w.heap.size + 1)
  have hmap' : Hid _ := hmap
  clear hmap hC hl
  go_region
  go_wp2
  go_ret
  exact ⟨rfl, grown_new1 .., new_block1 hlt .., hmap'.out⟩

set_option maxHeartbeats 400000 in
theorem run_found (A C : Nat) (l : List (K2 × Nat)) (t n : Int) (b : Nat) (w : World) (cA : w.cell? ⟨A, 9, none⟩ = some (.map (some C))) (hC : MapIs k2 w C l) (hl : l.lookup (t, n) = some b) :
    Calls Try.prog 53 #[pv A, .agg #[.int .i64 t, .int .i64 n]] w fun e w' => e = .returned (pv b) ∧ Below w.heap.size w w' := by
  have hA : A < w.heap.size := lt_of_cell cA
  have hlk : ∀ nq, (Instr.lookup 59 (.map (some C)) (.agg #[.int .i64 t, .int .i64 n]) false).run Try.prog ((w.alloc (.cells #[.int .i64 t, .int .i64 n] 67)).drewN nq) = .ok (pv b) ((w.alloc (.cells #[.int .i64 t, .int .i64 n] 67)).drewN nq) := by
    intro nq
    have hlt := hC.lt
    rw [lookup59 _ C l (hC.of_block (by show (w.alloc _).heap[C]? = _; rw [Below.heap_alloc _ _ _ hlt])), hl]; rfl
  clear hC hl
  go_enter Try.func53, Try.ntmps53
  go_wp2
  go_quiet (fail)
  go_wp2
  go_ret
  exact ⟨rfl, ((Below.refl _ _).alloc (Nat.le_refl _) _).trans ⟨rfl, rfl, rfl, Nat.le_refl _, fun _ _ => rfl⟩⟩
set_option maxHeartbeats 400000 in
theorem run_new (A C : Nat) (l : List (K2 × Nat)) (t n : Int) (w : World) (cA : w.cell? ⟨A, 9, none⟩ = some (.map (some C))) (hC : MapIs k2 w C l) (hl : l.lookup (t, n) = none) :
    Calls Try.prog 53 #[pv A, .agg #[.int .i64 t, .int .i64 n]] w fun e w' => e = .returned (pv (w.heap.size + 1)) ∧ w.grownBy w' (some C) ∧ w'.heap[w.heap.size + 1]? = some (.cells #[.string ⟨#[]⟩, .bool false, .slice none 0 0, .bool false, .bool false] 108) ∧ MapIs k2 w' C (l ++ [((t, n), w.heap.size + 1)]) := by
  have hA : A < w.heap.size := lt_of_cell cA
  have hlt := hC.lt
  have hlk : ∀ nq, (Instr.lookup 59 (.map (some C)) (.agg #[.int .i64 t, .int .i64 n]) false).run Try.prog ((w.alloc (.cells #[.int .i64 t, .int .i64 n] 67)).drewN nq) = .ok (.pointer none) ((w.alloc (.cells #[.int .i64 t, .int .i64 n] 67)).drewN nq) := by
    intro nq
    rw [lookup59 _ C l (hC.of_block (by show (w.alloc _).heap[C]? = _; rw [Below.heap_alloc _ _ _ hlt])), hl]; rfl
  go_enter Try.func53, Try.ntmps53
  go_wp2
  go_quiet (fail)
  go_wp2
  obtain ⟨o, hup, hmap⟩ := update59 ((((w.alloc (.cells #[.int .i64 t, .int .i64 n] 67)).drewN nq).alloc (.cells #[.string ⟨#[]⟩, .bool false, .slice none 0 0, .bool false, .bool false] 108)).drew) C l (hC.of_block (by
    show (((w.alloc _).drewN nq).alloc _).heap[C]? = _
    rw [Below.heap_alloc _ _ _ (by simp; omega), World.heap_drewN, Below.heap_alloc _ _ _ hlt])) t n hl (w.heap.size + 1)
  have hmap' : Hid _ := hmap
  clear hmap hC hl
  go_region
  go_wp2
  go_ret
  exact ⟨rfl, grown_new1 .., new_block1 hlt .., hmap'.out⟩
end Go.Proofs.Qxb6604372a
