/-
  THE READERS (zzexport.go), over 'Inv'.
-/
import Derived.Test.Qxb6604372aAdd
namespace Go.Proofs.Qxb6604372a
open Go.ChangeShapes Go.WideShapes Go.ChangeAt Go.RowKit

theorem cohortPrepared_any (b : Nat) (sv : Value) (pr : Bool) (w : World) (h : w.heap[b]? = some (.cells #[sv, .bool pr] 69)) :
    Calls Try.prog 12 #[pv b] w fun e w' => e = .returned (.bool pr) ∧ w' = w := by
  have h1 : w.cell? ⟨b, 1, none⟩ = some (.bool pr) := by simp [World.cell?, h]
  clear h
  go_enter Try.func12, Try.ntmps12
  go_wp2
  go_ret
  exact ⟨rfl, rfl⟩
theorem cohortAccesses_any (b : Nat) (a : Option Addr) (n c : Nat) (pr : Bool) (w : World) (h : w.heap[b]? = some (.cells #[.slice a n c, .bool pr] 69)) :
    Calls Try.prog 13 #[pv b] w fun e w' => e = .returned (.slice a n c) ∧ w' = w := by
  have h1 : w.cell? ⟨b, 0, none⟩ = some (.slice a n c) := by simp [World.cell?, h]
  clear h
  go_enter Try.func13, Try.ntmps13
  go_wp2
  go_ret
  exact ⟨rfl, rfl⟩
section
variable {base : Nat} {L : Lay} {s : St}
theorem cohortCount_any (w : World) (h : Inv base L s w) : Calls Try.prog 14 #[pv L.A] w fun e w' => e = .returned (.int .i64 L.coh.length) ∧ w' = w := by
  have h1 := h.cellC
  have h2 := fun ty => len60 ty w L.C L.coh h.C
  clear h
  generalize L.A = A at *
  generalize L.C = C at *
  generalize L.coh.length = m at *
  go_enter Try.func14, Try.ntmps14
  go_wp2
  go_ret
  exact ⟨rfl, rfl⟩
theorem pageCount_any (w : World) (h : Inv base L s w) : Calls Try.prog 18 #[pv L.A] w fun e w' => e = .returned (.int .i64 L.pag.length) ∧ w' = w := by
  have h1 := h.cellP
  have h2 := fun ty => len61 ty w L.P L.pag h.P
  clear h
  generalize L.A = A at *
  generalize L.P = C at *
  generalize L.pag.length = m at *
  go_enter Try.func18, Try.ntmps18
  go_wp2
  go_ret
  exact ⟨rfl, rfl⟩
theorem runCount_any (w : World) (h : Inv base L s w) : Calls Try.prog 19 #[pv L.A] w fun e w' => e = .returned (.int .i64 L.run.length) ∧ w' = w := by
  have h1 := h.cellR
  have h2 := fun ty => len59 ty w L.R L.run h.R
  clear h
  generalize L.A = A at *
  generalize L.R = C at *
  generalize L.run.length = m at *
  go_enter Try.func19, Try.ntmps19
  go_wp2
  go_ret
  exact ⟨rfl, rfl⟩
theorem cohortOf_any (t n st : Int) (w : World) (h : Inv base L s w) : Calls Try.prog 15 #[pv L.A, .int .i64 t, .int .i64 n, .int .i64 st] w fun e w' => e = .returned (opv (L.coh.lookup (t, n, st))) ∧ w' = w := by
  have h1 := h.cellC
  have h2 := lookup60 w L.C L.coh h.C t n st
  clear h
  generalize L.A = A at *
  generalize L.C = C at *
  generalize L.coh.lookup (t, n, st) = m at *
  go_enter Try.func15, Try.ntmps15
  go_wp2
  go_ret
  exact ⟨rfl, rfl⟩
theorem pageOf_any (t n : Int) (w : World) (h : Inv base L s w) : Calls Try.prog 40 #[pv L.A, .int .i64 t, .int .i64 n] w fun e w' => e = .returned (opv (L.pag.lookup (t, n))) ∧ w' = w := by
  have h1 := h.cellP
  have h2 := lookup61 w L.P L.pag h.P t n
  clear h
  generalize L.A = A at *
  generalize L.P = C at *
  generalize L.pag.lookup (t, n) = m at *
  go_enter Try.func40, Try.ntmps40
  go_wp2
  go_ret
  exact ⟨rfl, rfl⟩
theorem runOf_any (t n : Int) (w : World) (h : Inv base L s w) : Calls Try.prog 43 #[pv L.A, .int .i64 t, .int .i64 n] w fun e w' => e = .returned (opv (L.run.lookup (t, n))) ∧ w' = w := by
  have h1 := h.cellR
  have h2 := lookup59 w L.R L.run h.R t n
  clear h
  generalize L.A = A at *
  generalize L.R = C at *
  generalize L.run.lookup (t, n) = m at *
  go_enter Try.func43, Try.ntmps43
  go_wp2
  go_ret
  exact ⟨rfl, rfl⟩
theorem accessCount_any (w : World) (h : Inv base L s w) : Calls Try.prog 17 #[pv L.A] w fun e w' => e = .returned (.int .i64 s.accs.length) ∧ w' = w := by
  obtain ⟨sv, h1, h2⟩ := h.aud
  have h3 : ∃ a c, sv = .slice a s.accs.length c := by
    rcases h2.1.2 with ⟨e, hn⟩ | ⟨g, cap, cur, e, _⟩
    · exact ⟨none, 0, by rw [e, hn]⟩
    · exact ⟨_, _, e⟩
  obtain ⟨a, c, rfl⟩ := h3
  have h4 : w.cell? ⟨L.A, 12, none⟩ = some (.slice a s.accs.length c) := by simp [World.cell?, h1, audCells]
  clear h h1 h2
  generalize L.A = A at *
  generalize s.accs.length = m at *
  go_enter Try.func17, Try.ntmps17
  go_wp2
  go_ret
  exact ⟨rfl, rfl⟩
def repCells (lc cv : Int) : Array Value := #[.int .i64 0, .int .i64 lc, .int .i64 0, .int .i64 0, .int .i64 0, .int .i64 cv, .int .i64 0, .int .i64 0]
theorem report_any (w : World) (h : Inv base L s w) : Calls Try.prog 16 #[pv L.A] w fun e w' => e = .returned (.agg (repCells s.lc s.cv)) ∧ Below w.heap.size w w' := by
  obtain ⟨sv, h1⟩ := h.cell
  have c0 : w.cell? ⟨L.A, 0, none⟩ = some (.int .i64 0) := h1 0 _ rfl
  have c1 : w.cell? ⟨L.A, 1, none⟩ = some (.int .i64 s.lc) := h1 1 _ rfl
  have c2 : w.cell? ⟨L.A, 2, none⟩ = some (.int .i64 0) := h1 2 _ rfl
  have c3 : w.cell? ⟨L.A, 3, none⟩ = some (.int .i64 0) := h1 3 _ rfl
  have c4 : w.cell? ⟨L.A, 4, none⟩ = some (.int .i64 0) := h1 4 _ rfl
  have c5 : w.cell? ⟨L.A, 5, none⟩ = some (.int .i64 s.cv) := h1 5 _ rfl
  have c6 : w.cell? ⟨L.A, 6, none⟩ = some (.int .i64 0) := h1 6 _ rfl
  have c7 : w.cell? ⟨L.A, 7, none⟩ = some (.int .i64 0) := h1 7 _ rfl
  have hA : L.A < w.heap.size := lt_of_cell c0
  clear h h1
  generalize L.A = A at *
  generalize s.lc = lc at *
  generalize s.cv = cv at *
  go_enter Try.func16, Try.ntmps16
  go_wp2
  exact bodyPost_ret (v := .agg (repCells lc cv)) (by simp [results, Try.results16, go_sem, repCells]) rfl ⟨rfl, (Below.refl _ _).alloc (Nat.le_refl _) _⟩
end
end Go.Proofs.Qxb6604372a
