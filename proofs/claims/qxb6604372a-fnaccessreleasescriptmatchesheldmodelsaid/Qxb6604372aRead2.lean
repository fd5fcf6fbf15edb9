/-
  More readers: ZZaccessAt, the page's slices, the run's fields and borrowings.
-/
import Derived.Test.Qxb6604372aIdx
namespace Go.Proofs.Qxb6604372a
open Go.ChangeShapes Go.WideShapes Go.ChangeAt Go.RowKit

section
variable {base : Nat} {L : Lay} {s : St}
set_option maxHeartbeats 1000000 in
theorem accessAt_any (i : Nat) (a : Acc) (w : World) (h : Inv base L s w) (hi : s.accs[i]? = some a) :
    Calls Try.prog 32 #[pv L.A, .int .i64 i] w fun e w' => e = .returned (.tuple #[.int .i64 a.txn, .int .i64 a.n, .int .i64 a.site, .int .i64 a.page, .bool a.upd, .bool false]) ∧ Below w.heap.size w w' := by
  obtain ⟨g, cap, cA, hc⟩ := h.accAt hi
  have hil : (i : Int) < (s.accs.length : Int) := by have := (List.getElem?_eq_some_iff.1 hi).1; omega
  have a0 : w.cell? ⟨g, i * 6, none⟩ = some (.int .i64 a.txn) := hc 0 _ rfl
  have a1 : w.cell? ⟨g, i * 6 + 1, none⟩ = some (.int .i64 a.n) := hc 1 _ rfl
  have a2 : w.cell? ⟨g, i * 6 + 2, none⟩ = some (.int .i64 a.site) := hc 2 _ rfl
  have a3 : w.cell? ⟨g, i * 6 + 3, none⟩ = some (.int .i64 a.page) := hc 3 _ rfl
  have a4 : w.cell? ⟨g, i * 6 + 4, none⟩ = some (.bool a.upd) := hc 4 _ rfl
  have a5 : w.cell? ⟨g, i * 6 + 5, none⟩ = some (.bool false) := hc 5 _ rfl
  clear h hc hi
  generalize L.A = A at *
  generalize s.accs.length = n at *
  obtain ⟨atxn, an, asite, apage, aupd⟩ := a
  simp only at *
  go_enter Try.func32, Try.ntmps32
  go_wp2
  go_quiet (fail)
  go_wp2
  exact bodyPost_ret (v := .tuple #[.int .i64 atxn, .int .i64 an, .int .i64 asite, .int .i64 apage, .bool aupd, .bool false]) (by simp [results, Try.results32, go_sem]) rfl ⟨rfl, below_drewN ((Below.refl _ _).alloc (Nat.le_refl _) _) _⟩
theorem pageAccesses_any (b : Nat) (a : Option Addr) (n c : Nat) (sh : Value) (w : World) (h : w.heap[b]? = some (.cells #[.slice a n c, sh] 99)) :
    Calls Try.prog 41 #[pv b] w fun e w' => e = .returned (.slice a n c) ∧ w' = w := by
  have h1 : w.cell? ⟨b, 0, none⟩ = some (.slice a n c) := by simp [World.cell?, h]
  clear h
  go_enter Try.func41, Try.ntmps41
  go_wp2
  go_ret
  exact ⟨rfl, rfl⟩
theorem pageHeld_any (b : Nat) (a : Option Addr) (n c : Nat) (sa : Value) (w : World) (h : w.heap[b]? = some (.cells #[sa, .slice a n c] 99)) :
    Calls Try.prog 42 #[pv b] w fun e w' => e = .returned (.slice a n c) ∧ w' = w := by
  have h1 : w.cell? ⟨b, 1, none⟩ = some (.slice a n c) := by simp [World.cell?, h]
  clear h
  go_enter Try.func42, Try.ntmps42
  go_wp2
  go_ret
  exact ⟨rfl, rfl⟩
set_option maxHeartbeats 1000000 in
theorem runFields_any (b : Nat) (sv : Value) (w : World) (h : w.heap[b]? = some (.cells #[.string ⟨#[]⟩, .bool false, sv, .bool false, .bool false] 108)) :
    Calls Try.prog 44 #[pv b] w fun e w' => e = .returned (.tuple #[.string ⟨#[]⟩, .bool false, .bool false, .bool false]) ∧ Below w.heap.size w w' := by
  have h0 : w.cell? ⟨b, 0, none⟩ = some (.string ⟨#[]⟩) := cell_of_block h rfl
  have h1 : w.cell? ⟨b, 1, none⟩ = some (.bool false) := cell_of_block h rfl
  have h3 : w.cell? ⟨b, 3, none⟩ = some (.bool false) := cell_of_block h rfl
  have h4 : w.cell? ⟨b, 4, none⟩ = some (.bool false) := cell_of_block h rfl
  clear h
  go_enter Try.func44, Try.ntmps44
  go_wp2
  go_quiet (fail)
  go_wp2
  exact bodyPost_ret (v := .tuple #[.string ⟨#[]⟩, .bool false, .bool false, .bool false]) (by simp [results, Try.results44, go_sem]) rfl ⟨rfl, below_drewN (Below.refl _ _) _⟩
theorem borCount_any (b : Nat) (a : Option Addr) (n c : Nat) (w : World) (h : w.cell? ⟨b, 2, none⟩ = some (.slice a n c)) :
    Calls Try.prog 45 #[pv b] w fun e w' => e = .returned (.int .i64 n) ∧ w' = w := by
  go_enter Try.func45, Try.ntmps45
  go_wp2
  go_ret
  exact ⟨rfl, rfl⟩
set_option maxHeartbeats 1000000 in
theorem borAt_any (b : Nat) (a : Option Addr) (c : Nat) (xs : List (Int × K2)) (i : Nat) (x : Int × K2) (w : World) (h : w.cell? ⟨b, 2, none⟩ = some (.slice a xs.length c)) (hsl : BorSl w a xs) (hi : xs[i]? = some x) :
    Calls Try.prog 46 #[pv b, .int .i64 i] w fun e w' => e = .returned (.tuple #[.int .i64 x.1, .int .i64 x.2.1, .int .i64 x.2.2]) ∧ Below w.heap.size w w' := by
  obtain ⟨g, rfl, hc⟩ := hsl i x hi
  have hil : (i : Int) < (xs.length : Int) := by have := (List.getElem?_eq_some_iff.1 hi).1; omega
  have a0 : w.cell? ⟨g, i * 3, none⟩ = some (.int .i64 x.1) := hc 0 _ rfl
  have a1 : w.cell? ⟨g, i * 3 + 1, none⟩ = some (.int .i64 x.2.1) := hc 1 _ rfl
  have a2 : w.cell? ⟨g, i * 3 + 2, none⟩ = some (.int .i64 x.2.2) := hc 2 _ rfl
  clear hc hi hsl
  generalize xs.length = n at *
  go_enter Try.func46, Try.ntmps46
  go_wp2
  go_quiet (fail)
  go_wp2
  go_ret3
  exact ⟨rfl, below_drewN ((Below.refl _ _).alloc (Nat.le_refl _) _) _⟩
end
end Go.Proofs.Qxb6604372a
