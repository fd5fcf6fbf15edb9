/-
  access$1 (does a held lock stand in the way?), slices.IndexFunc and ContainsFunc over it.
-/
import Derived.Test.Qxb6604372aBor
import Derived.Deep.DeepCutAuto
namespace Go.Proofs.Qxb6604372a
open Go.ChangeShapes Go.WideShapes Go.ChangeAt Go.RowKit

def eventCells (e : Ev) : Array Value :=
  #[.string ⟨#[]⟩, .float .f64 0, .int .i64 e.txn, .int .i64 e.n, .int .i64 e.site, .int .i64 e.page, .bool e.upd, .bool e.bor, .int .i64 e.lt, .int .i64 e.ln, .string ⟨#[]⟩, .float .f64 0, .bool false]
/-- The event in block E. -/
abbrev EvAt (w : World) (E : Nat) (e : Ev) : Prop := w.heap[E]? = some (.cells (eventCells e) 82)

section
variable {base : Nat} {L : Lay} {s : St}
set_option maxRecDepth 100000 in
set_option maxHeartbeats 4000000 in
theorem hit_any (e : Ev) (j : Nat) (a : Acc) (B0 B1 E : Nat) (w : World) (h : Inv base L s w) (hj : s.accs[j]? = some a) (hcoh : ∃ b, L.coh.lookup (a.txn, a.n, e.site) = some b)
    (hB0 : w.cell? ⟨B0, 0, none⟩ = some (pv L.A)) (hB1 : w.cell? ⟨B1, 0, none⟩ = some (pv E)) (hE : EvAt w E e) :
    Calls Try.prog 51 #[.int .i64 j, pv B0, pv B1] w fun r w' => r = .returned (.bool (a.txn != e.txn && (e.upd || a.upd))) ∧ Below w.heap.size w w' := by
  obtain ⟨g, cap, cA, hc⟩ := h.accAt hj
  obtain ⟨b, hb⟩ := hcoh
  have hjl := (List.getElem?_eq_some_iff.1 hj).1
  have a0 : w.cell? ⟨g, j * 6, none⟩ = some (.int .i64 a.txn) := hc 0 _ rfl
  have a1 : w.cell? ⟨g, j * 6 + 1, none⟩ = some (.int .i64 a.n) := hc 1 _ rfl
  have a4 : w.cell? ⟨g, j * 6 + 4, none⟩ = some (.bool a.upd) := hc 4 _ rfl
  have e2 : w.cell? ⟨E, 2, none⟩ = some (.int .i64 e.txn) := cell_of_block hE rfl
  have e4 : w.cell? ⟨E, 4, none⟩ = some (.int .i64 e.site) := cell_of_block hE rfl
  have e6 : w.cell? ⟨E, 6, none⟩ = some (.bool e.upd) := cell_of_block hE rfl
  have e7 : w.cell? ⟨E, 7, none⟩ = some (.bool e.bor) := cell_of_block hE rfl
  have e8 : w.cell? ⟨E, 8, none⟩ = some (.int .i64 e.lt) := cell_of_block hE rfl
  have e9 : w.cell? ⟨E, 9, none⟩ = some (.int .i64 e.ln) := cell_of_block hE rfl
  obtain ⟨_, sv, hcb, _⟩ := h.coh _ _ hb
  have b1 : w.cell? ⟨b, 1, none⟩ = some (.bool false) := cell_of_block hcb rfl
  have hcall := fun W (hbw : Below w.heap.size w W) => (cohort_found L.A L.C L.coh a.txn a.n e.site b W ((h.below hbw).cellC) (h.below hbw).C hb)
  have HC : Hid _ := hcall
  have hj0 : (0 : Int) ≤ (j : Int) := by omega
  have hj1 : (j : Int) < (s.accs.length : Int) := by omega
  have l0 : B0 < w.heap.size := lt_of_cell hB0
  have l1 : B1 < w.heap.size := lt_of_cell hB1
  have l2 : L.A < w.heap.size := lt_of_cell cA
  have l3 : g < w.heap.size := lt_of_cell a0
  have l4 : E < w.heap.size := lt_of_cell e2
  have l5 : b < w.heap.size := lt_of_cell b1
  clear h hc hj hE hb hcb hcall
  generalize L.A = A at *
  generalize s.accs.length = n at *
  obtain ⟨etxn, en, esite, epage, eupd, ebor, elt, eln⟩ := e
  obtain ⟨atxn, an, asite, apage, aupd⟩ := a
  simp only at *
  go_enter Try.func51, Try.ntmps51
  go_wp2
  go_cut [6] (fun v W => v = .bool false ∧ Below w.heap.size w W)
  case first =>
    cases ebor with
    | false =>
      go_quiet (fail)
      go_wp2
      go_meet
      case rel => exact ⟨rfl, below_drewN (Below.refl _ _) _⟩
    | true =>
      by_cases hw : atxn = elt ∧ an = eln
      · obtain ⟨rfl, rfl⟩ := hw
        go_region_held3 (fun w' => w'.cell? ⟨B0, 0, none⟩ = some (pv A) ∧ w'.cell? ⟨B1, 0, none⟩ = some (pv E) ∧ w'.cell? ⟨g, j * 6, none⟩ = some (.int .i64 atxn) ∧ w'.cell? ⟨g, j * 6 + 1, none⟩ = some (.int .i64 an) ∧ w'.cell? ⟨E, 7, none⟩ = some (.bool true) ∧ w'.cell? ⟨E, 8, none⟩ = some (.int .i64 atxn) ∧ w'.cell? ⟨E, 9, none⟩ = some (.int .i64 an) ∧ w'.cell? ⟨E, 4, none⟩ = some (.int .i64 esite) ∧ w'.cell? ⟨b, 1, none⟩ = some (.bool false)) (go_keep)
          ((go_at_call 31; refine (HC.out _ ?_).mono ?_; exact (Below.refl _ _).drew; rintro e w' ⟨rfl, hb'⟩; have hb : Below w.heap.size w w' := (Below.refl _ _).drew.trans hb'; clear hb'; obtain ⟨hc1, hf1⟩ := bcell hb))
        go_wp2
        go_meet
        case rel => exact ⟨rfl, hb⟩
      · have h3 : ¬ atxn = elt ∨ (atxn = elt ∧ ¬ an = eln) := by
          by_cases e1 : atxn = elt
          · exact .inr ⟨e1, fun e2 => hw ⟨e1, e2⟩⟩
          · exact .inl e1
        have hgd := guard67
        clear hw
        rcases h3 with h3 | ⟨rfl, h3⟩
        all_goals
          go_quiet (fail)
          go_wp2
          go_meet
          case rel => exact ⟨rfl, below_drewN (Below.refl _ _) _⟩
  case rest =>
    obtain ⟨rfl, hbc⟩ := hcut
    obtain ⟨hcc, _⟩ := bcell hbc
    have hB0' := (hcc B0 0 l0).trans hB0
    have hB1' := (hcc B1 0 l1).trans hB1
    have a0' := (hcc g (j * 6) l3).trans a0
    have a4' := (hcc g (j * 6 + 4) l3).trans a4
    have e2' := (hcc E 2 l4).trans e2
    have e6' := (hcc E 6 l4).trans e6
    clear hcc hB0 hB1 a0 a1 a4 e2 e4 e6 e7 e8 e9 b1 cA HC l0 l1 l2 l3 l4 l5
    by_cases ht : atxn = etxn
    · subst ht
      go_wp2
      go_quiet (fail)
      go_wp2
      go_ret
      exact ⟨by simp, below_drewN hbc _⟩
    · have ht' : (atxn != etxn) = true := by simpa using ht
      cases eupd <;> cases aupd
      all_goals
        go_wp2
        go_quiet (fail)
        go_wp2
        go_ret
        exact ⟨by simp [ht], below_drewN hbc _⟩
end
end Go.Proofs.Qxb6604372a
