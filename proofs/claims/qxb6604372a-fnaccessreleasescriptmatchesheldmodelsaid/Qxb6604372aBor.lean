/-
  decision, borrowsFromUndecided and what they call.
-/
import Derived.Test.Qxb6604372aMut
import Derived.Test.Qxb6604372aEq
namespace Go.Proofs.Qxb6604372a
open Go.ChangeShapes Go.WideShapes Go.ChangeAt Go.RowKit

theorem bcell {W w1 : World} (hb : Below W.heap.size W w1) : (∀ b o, b < W.heap.size → w1.cell? ⟨b, o, none⟩ = W.cell? ⟨b, o, none⟩) ∧ (∀ b o, b < W.heap.size → w1.frozen? ⟨b, o, none⟩ = W.frozen? ⟨b, o, none⟩) :=
  ⟨fun b o h => hb.cell (p := ⟨b, o, none⟩) h, fun b o h => hb.frozen (p := ⟨b, o, none⟩) h⟩
section
variable {base : Nat} {L : Lay} {s : St}
set_option maxHeartbeats 400000 in
theorem decision_any (t n : Int) (w : World) (h : Inv base L s w) : Calls Try.prog 57 #[pv L.A, .agg #[.int .i64 t, .int .i64 n]] w fun e w' => e = .returned (.string ⟨#[]⟩) ∧ Below w.heap.size w w' := by
  have cA := h.cellR
  have hA : L.A < w.heap.size := lt_of_cell cA
  have hlt := h.R.lt
  have hlk : ∀ nq, (Instr.lookup 59 (.map (some L.R)) (.agg #[.int .i64 t, .int .i64 n]) false).run Try.prog ((w.alloc (.cells #[.int .i64 t, .int .i64 n] 67)).drewN nq) = .ok (opv (L.run.lookup (t, n))) ((w.alloc (.cells #[.int .i64 t, .int .i64 n] 67)).drewN nq) := by
    intro nq
    exact lookup59 _ L.R L.run (h.R.of_block (by show (w.alloc _).heap[L.R]? = _; rw [Below.heap_alloc _ _ _ hlt])) t n
  cases hl : L.run.lookup (t, n) with
  | none =>
    rw [hl] at hlk
    clear h hl
    generalize L.A = A at *
    generalize L.R = R at *
    go_enter Try.func57, Try.ntmps57
    go_wp2
    go_quiet (fail)
    go_wp2
    go_ret
    exact ⟨rfl, below_drewN ((Below.refl _ _).alloc (Nat.le_refl _) _) _⟩
  | some b =>
    rw [hl] at hlk
    simp only [opv, Option.map_some] at hlk
    obtain ⟨_, sv, hb, _⟩ := h.run _ _ hl
    have c0 : w.cell? ⟨b, 0, none⟩ = some (.string ⟨#[]⟩) := cell_of_block hb rfl
    have hbl : b < w.heap.size := lt_of_cell c0
    clear h hl hb
    generalize L.A = A at *
    generalize L.R = R at *
    go_enter Try.func57, Try.ntmps57
    go_wp2
    go_quiet (fail)
    go_wp2
    go_ret
    exact ⟨rfl, below_drewN ((Below.refl _ _).alloc (Nat.le_refl _) _) _⟩
/-- The slice of accesses; each access's cells. -/
theorem Inv.accAt {w : World} (h : Inv base L s w) {i : Nat} {a : Acc} (hi : s.accs[i]? = some a) : ∃ g cap, w.cell? ⟨L.A, 12, none⟩ = some (.slice (some ⟨g, 0, none⟩) s.accs.length cap) ∧ ∀ j v, (accCells a)[j]? = some v → w.cell? ⟨g, i * 6 + j, none⟩ = some v := by
  obtain ⟨sv, h1, h2⟩ := h.aud
  have hil := (List.getElem?_eq_some_iff.1 hi).1
  rcases h2.1.2 with ⟨_, hn⟩ | ⟨g, cap, cur, rfl, _, hh, _, _, _, ht⟩
  · omega
  · refine ⟨g, cap, by simp [World.cell?, h1, audCells], fun j v hv => row_cell hh ht ?_⟩
    have hj : j < 6 := by have := (List.getElem?_eq_some_iff.1 hv).1; simpa [accCells] using this
    rw [flat_get accCells 6 (fun _ => rfl) s.accs i j a hi hj]; exact hv
set_option maxHeartbeats 1000000 in
theorem undecided_any (i : Nat) (lt ln : Int) (B0 : Nat) (w : World) (h : Inv base L s w) (hB : w.cell? ⟨B0, 0, none⟩ = some (pv L.A)) (hi : i < s.accs.length) (_hlen : s.accs.length ≤ 1024) :
    Calls Try.prog 56 #[.agg #[.int .i64 i, .int .i64 lt, .int .i64 ln], pv B0] w fun e w' => e = .returned (.bool true) ∧ Below w.heap.size w w' := by
  obtain ⟨a, ha⟩ : ∃ a, s.accs[i]? = some a := ⟨s.accs[i], by simp⟩
  obtain ⟨g, cap, cA, hc⟩ := h.accAt ha
  have c5 : w.cell? ⟨g, i * 6 + 5, none⟩ = some (.bool false) := hc 5 _ rfl
  have hBl := lt_of_cell hB
  have hAl := lt_of_cell cA
  have hgl := lt_of_cell c5
  have hdec := fun W (hb : Below w.heap.size w W) => decision_any lt ln W (h.below hb)
  have HD : Hid _ := hdec
  have hi1 : (0 : Int) ≤ (i : Int) := by omega
  have hi2 : (i : Int) < (s.accs.length : Int) := by omega
  clear h hc ha hdec
  generalize L.A = A at *
  generalize s.accs.length = n at *
  have hBl1 : B0 < w.heap.size + 1 := by have : B0 < w.heap.size := hBl; omega
  have hAl1 : A < w.heap.size + 1 := by have : A < w.heap.size := hAl; omega
  have hgl1 : g < w.heap.size + 1 := by have : g < w.heap.size := hgl; omega
  go_enter Try.func56, Try.ntmps56
  go_wp2
  go_region_held3 (fun w' => w'.cell? ⟨B0, 0, none⟩ = some (pv A) ∧ w'.cell? ⟨A, 12, none⟩ = some (.slice (some ⟨g, 0, none⟩) n cap) ∧ w'.cell? ⟨w.heap.size, 0, none⟩ = some (.int .i64 i) ∧ w'.cell? ⟨w.heap.size, 1, none⟩ = some (.int .i64 lt) ∧ w'.cell? ⟨w.heap.size, 2, none⟩ = some (.int .i64 ln) ∧ w'.cell? ⟨g, i * 6 + 5, none⟩ = some (.bool false)) (go_keep)
    ((go_at_call 57; refine (HD.out _ ?_).mono ?_; exact (((Below.refl _ _).alloc (Nat.le_refl _) _).drew); rintro e w' ⟨rfl, hb⟩; obtain ⟨hc1, hf1⟩ := bcell hb))
  go_wp2
  go_ret
  exact ⟨rfl, (((Below.refl _ _).alloc (Nat.le_refl _) _).drew).trans (hb.mono (by simp))⟩
/-- A borrowings' slice. -/
def BorSl (W : World) (a : Option Addr) (xs : List (Int × K2)) : Prop := ∀ i x, xs[i]? = some x → ∃ g, a = some ⟨g, 0, none⟩ ∧ ∀ j v, (borCells x)[j]? = some v → W.cell? ⟨g, i * 3 + j, none⟩ = some v
set_option maxHeartbeats 1000000 in
theorem indexBor_any (a : Option Addr) (cap : Nat) (xs : List (Int × K2)) (B0 : Nat) (w : World) (h : Inv base L s w) (hx : BorSl w a xs) (hB : w.cell? ⟨B0, 0, none⟩ = some (pv L.A)) (hi : ∀ x ∈ xs, ∃ i : Nat, x.1 = (i : Int) ∧ i < s.accs.length) (hlen : s.accs.length ≤ 1024) (hxl : xs.length ≤ 1024) :
    Calls Try.prog 58 #[.slice a xs.length cap, .func (.func 56) #[] #[pv B0]] w fun e w' => e = .returned (.int .i64 (if xs.isEmpty then -1 else 0)) ∧ Below w.heap.size w w' := by
  cases xs with
  | nil =>
    clear hx hB hi hlen hxl h
    go_enter Try.func58, Try.ntmps58
    go_wp2
    go_loop [8] (fun j => j = .int .i64 0) (fun _ => 0)
    case atStart => rfl
    case round =>
      subst hrel
      go_wp2
      go_ret
      exact ⟨rfl, Below.refl _ _⟩
  | cons x xs =>
    obtain ⟨g, rfl, hc⟩ := hx 0 x rfl
    obtain ⟨i, hi1, hi2⟩ := hi x (by simp)
    have hu := undecided_any i x.2.1 x.2.2 B0 w h hB hi2 hlen
    have c0 : w.cell? ⟨g, 0, none⟩ = some (.int .i64 i) := by have := hc 0 _ rfl; rw [hi1] at this; exact this
    have c1 : w.cell? ⟨g, 1, none⟩ = some (.int .i64 x.2.1) := hc 1 _ rfl
    have c2 : w.cell? ⟨g, 2, none⟩ = some (.int .i64 x.2.2) := hc 2 _ rfl
    have HU : Hid _ := hu
    clear hx hB hi hi1 hu h hc
    go_enter Try.func58, Try.ntmps58
    go_wp2
    go_loop [8] (fun j => j = .int .i64 0) (fun _ => 0)
    case atStart => rfl
    case round =>
      subst hrel
      go_wp2_with fail
      refine Calls.mono HU.out ?_
      rintro e w' ⟨rfl, hb⟩
      go_wp2
      go_ret
      exact ⟨by simp, hb⟩
theorem containsBor_any (a : Option Addr) (cap : Nat) (xs : List (Int × K2)) (B0 : Nat) (w : World) (h : Inv base L s w) (hx : BorSl w a xs) (hB : w.cell? ⟨B0, 0, none⟩ = some (pv L.A)) (hi : ∀ x ∈ xs, ∃ i : Nat, x.1 = (i : Int) ∧ i < s.accs.length) (hlen : s.accs.length ≤ 1024) (hxl : xs.length ≤ 1024) :
    Calls Try.prog 55 #[.slice a xs.length cap, .func (.func 56) #[] #[pv B0]] w fun e w' => e = .returned (.bool (!xs.isEmpty)) ∧ Below w.heap.size w w' := by
  have hu := indexBor_any a cap xs B0 w h hx hB hi hlen hxl
  have HU : Hid _ := hu
  clear hu h hx hB hi
  generalize xs.length = n at *
  cases xs with
  | nil =>
    go_enter Try.func55, Try.ntmps55
    go_wp2_with fail
    refine Calls.mono HU.out ?_
    rintro e w' ⟨rfl, hb⟩
    go_wp2
    go_ret
    exact ⟨by simp, hb⟩
  | cons x xs =>
    go_enter Try.func55, Try.ntmps55
    go_wp2_with fail
    refine Calls.mono HU.out ?_
    rintro e w' ⟨rfl, hb⟩
    go_wp2
    go_ret
    exact ⟨by simp, hb⟩
/-- The borrowings of one run, as the walk reads them. -/
theorem RunAt.sl {w : World} {own : Nat → Option Tag} {b : Nat} {k : K2} {xs : List (Int × K2)} (h : RunAt base own w b k xs) : ∃ a cap, w.cell? ⟨b, 2, none⟩ = some (.slice a xs.length cap) ∧ BorSl w a xs := by
  obtain ⟨_, sv, hb, hr⟩ := h
  rcases hr.1.2 with ⟨rfl, hn⟩ | ⟨g, cap, cur, rfl, _, hh, _, _, _, ht⟩
  · have : xs = [] := List.length_eq_zero_iff.1 hn
    subst this
    exact ⟨none, 0, cell_of_block hb rfl, fun i x hi => by simp at hi⟩
  · refine ⟨_, cap, cell_of_block hb rfl, fun i x hi => ⟨g, rfl, fun j v hv => row_cell hh ht ?_⟩⟩
    have hj : j < 3 := by have := (List.getElem?_eq_some_iff.1 hv).1; simpa [borCells] using this
    rw [flat_get borCells 3 (fun _ => rfl) xs i j x hi hj]; exact hv
theorem BorSl.kept {W W' : World} {a : Option Addr} {xs : List (Int × K2)} (h : BorSl W a xs) (hb : Below W.heap.size W W') : BorSl W' a xs := by
  intro i x hx
  obtain ⟨g, ha, hc⟩ := h i x hx
  refine ⟨g, ha, fun j v hv => ?_⟩
  have := hc j v hv
  rw [hb.cell (lt_of_cell this)]; exact this
set_option maxHeartbeats 1000000 in
theorem borrows_any (lt ln : Int) (w : World) (h : Inv base L s w) (hwf : ∀ x ∈ s.runB (lt, ln), ∃ i : Nat, x.1 = (i : Int) ∧ i < s.accs.length) (hlen : s.accs.length ≤ 1024) (hxl : (s.runB (lt, ln)).length ≤ 1024) :
    Calls Try.prog 52 #[pv L.A, .agg #[.int .i64 lt, .int .i64 ln]] w fun e w' => e = .returned (.bool (!(s.runB (lt, ln)).isEmpty)) ∧ Below w.heap.size w w' := by
  have cA := h.cellR
  have hA : L.A < w.heap.size := lt_of_cell cA
  have hA1 : L.A < w.heap.size + 1 := by omega
  have hlt := h.R.lt
  have hbW : ∀ nq, Below w.heap.size w (((w.alloc (.cells #[pv L.A] 25)).alloc (.cells #[.int .i64 lt, .int .i64 ln] 67)).drewN nq) := fun nq => below_drewN (((Below.refl _ _).alloc (Nat.le_refl _) _).alloc (by simp) _) nq
  have hlk : ∀ nq, (Instr.lookup 59 (.map (some L.R)) (.agg #[.int .i64 lt, .int .i64 ln]) false).run Try.prog (((w.alloc (.cells #[pv L.A] 25)).alloc (.cells #[.int .i64 lt, .int .i64 ln] 67)).drewN nq) = .ok (opv (L.run.lookup (lt, ln))) (((w.alloc (.cells #[pv L.A] 25)).alloc (.cells #[.int .i64 lt, .int .i64 ln] 67)).drewN nq) := by
    intro nq
    exact lookup59 _ L.R L.run (h.R.of_block ((hbW nq).block _ hlt)) lt ln
  cases hl : L.run.lookup (lt, ln) with
  | none =>
    rw [hl] at hlk
    have h0 := h.run0 _ hl
    rw [h0]
    clear h hl h0 hwf hxl
    generalize L.A = A at *
    generalize L.R = R at *
    go_enter Try.func52, Try.ntmps52
    go_wp2
    go_quiet (fail)
    go_wp2
    go_ret
    exact ⟨rfl, hbW _⟩
  | some b =>
    rw [hl] at hlk
    simp only [opv, Option.map_some] at hlk
    obtain ⟨a, cap, c2, hsl⟩ := (h.run _ _ hl).sl
    have hbl : b < w.heap.size := lt_of_cell c2
    have hbl1 : b < w.heap.size + 1 := by omega
    have hcall := fun nq => containsBor_any a cap (s.runB (lt, ln)) w.heap.size _ (h.below (hbW nq)) (hsl.kept (hbW nq)) (by simp) hwf hlen hxl
    have HC : Hid _ := hcall
    have HW : Hid _ := hbW
    clear h hl hwf hxl hcall hsl hbW
    generalize (s.runB (lt, ln)).length = m at *
    generalize L.A = A at *
    generalize L.R = R at *
    go_enter Try.func52, Try.ntmps52
    go_wp2
    go_quiet (fail)
    go_wp2_with fail
    refine Calls.mono (HC.out _) ?_
    rintro e w' ⟨rfl, hb⟩
    go_wp2
    go_ret
    exact ⟨rfl, (HW.out _).trans (hb.mono (by simp; omega))⟩
end
end Go.Proofs.Qxb6604372a
