/-
  The walks of FnUnexpectedSettles: errors held by their pointers.
-/
import Derived.Test.Qxb6604491aDoorRows
import Derived.WalkKit
import Derived.ProofKit
import Derived.LaidEql
import Derived.BigQuiet
import Derived.Deep.QuietTactic
import Derived.Below
namespace Go.Proofs.Qxb6604491aDoor
open Go.ChangeShapes Go.WideShapes Go.ChangeAt Go.RowKit

theorem comp30 : (Tryd.prog.info? 30).map (·.comparable) = some true := by kernel_rfl
theorem size32 : (Tryd.prog.info? 32).map (·.size) = some 1 := by kernel_rfl
abbrev EP (a : Addr) : Value := .iface 30 (.pointer (some a))
def IsB (w : World) (a : Addr) : Prop := ∃ c t, w.heap[a.block]? = some (.cells c t (0, 0))
theorem eq_same (w : World) (a : Addr) : (binOp .eql 25 (EP a) (EP a)).run Tryd.prog w = .ok (.bool true) w := by
  obtain ⟨i, hi, hcmp⟩ := Option.map_eq_some_iff.1 comp30
  obtain ⟨j, hj, _⟩ := Option.map_eq_some_iff.1 size32
  exact run_eql_iface_ptr_same w a Tryd.underlying25 Tryd.underlying30 hi hcmp hj
theorem eq_other {w : World} {a b : Addr} (hne : a ≠ b) (ha : IsB w a) (hb : IsB w b) : (binOp .eql 25 (EP a) (EP b)).run Tryd.prog w = .ok (.bool false) w := by
  obtain ⟨i, hi, hcmp⟩ := Option.map_eq_some_iff.1 comp30
  obtain ⟨j, hj, hjs⟩ := Option.map_eq_some_iff.1 size32
  obtain ⟨ca, ta, ha⟩ := ha
  obtain ⟨cb, tb, hb⟩ := hb
  exact run_eql_iface_ptr_other w Tryd.underlying25 Tryd.underlying30 hi hcmp hj (by rw [hjs]; decide) hne ha hb
theorem eq_nl (w : World) (v : Value) : (binOp .eql 25 .nilIface (.iface 30 v)).run Tryd.prog w = .ok (.bool false) w := run_eql_iface_nil_left w 30 v Tryd.underlying25
theorem eq_nr (w : World) (v : Value) : (binOp .eql 25 (.iface 30 v) .nilIface).run Tryd.prog w = .ok (.bool false) w := by
  have h : ∀ d : Nat, (Op.equalIn (d + 1) 25 (.iface 30 v) .nilIface).run Tryd.prog w = .ok false w := fun d => by simp [Op.equalIn, run_underlying Tryd.underlying25]
  simp only [binOp]
  simp [Op.equal, Op.maxDepth, h 9999]
theorem eq_nn (w : World) : (binOp .eql 25 .nilIface .nilIface).run Tryd.prog w = .ok (.bool true) w := by
  have h : ∀ d : Nat, (Op.equalIn (d + 1) 25 .nilIface .nilIface).run Tryd.prog w = .ok true w := fun d => by simp [Op.equalIn, run_underlying Tryd.underlying25]
  simp only [binOp]
  simp [Op.equal, Op.maxDepth, h 9999]

theorem ne_nr (w : World) (v : Value) : (binOp .neq 25 (.iface 30 v) .nilIface).run Tryd.prog w = .ok (.bool true) w := by
  have h : ∀ d : Nat, (Op.equalIn (d + 1) 25 (.iface 30 v) .nilIface).run Tryd.prog w = .ok false w := fun d => by simp [Op.equalIn, run_underlying Tryd.underlying25]
  simp only [binOp]
  simp [Op.equal, Op.maxDepth, h 9999]

/-- The two sentinels. -/
structure Ers (a0 a1 : Addr) (w : World) : Prop where
  c0 : w.cell? ⟨0, 0, none⟩ = some (EP a0)
  c1 : w.cell? ⟨1, 0, none⟩ = some (EP a1)
  ne : a0 ≠ a1
  b0 : IsB w a0
  b1 : IsB w a1
theorem lt_of_cellD {w : World} {b o : Nat} {v : Value} (h : w.cell? ⟨b, o, none⟩ = some v) : b < w.heap.size := by
  unfold World.cell? at h
  rcases Nat.lt_or_ge b w.heap.size with h' | h'
  · exact h'
  · simp [Array.getElem?_eq_none h'] at h
theorem IsB.lt {w : World} {a : Addr} (h : IsB w a) : a.block < w.heap.size := by
  obtain ⟨c, t, h⟩ := h
  exact (Array.getElem?_eq_some_iff.1 h).1
theorem IsB.kept {w w' : World} {a : Addr} (h : IsB w a) (hb : Below w.heap.size w w') : IsB w' a := by
  have hl := h.lt
  obtain ⟨c, t, h⟩ := h
  exact ⟨c, t, by rw [hb.block _ hl]; exact h⟩
theorem Ers.kept {a0 a1 : Addr} {w w' : World} (h : Ers a0 a1 w) (hb : Below w.heap.size w w') : Ers a0 a1 w' :=
  ⟨by rw [hb.cell (lt_of_cellD h.c0)]; exact h.c0, by rw [hb.cell (lt_of_cellD h.c1)]; exact h.c1, h.ne, h.b0.kept hb, h.b1.kept hb⟩

theorem below_drewN {B : Nat} {a w : World} (h : Below B a w) (n : Nat) : Below B a (w.drewN n) := ⟨h.os, h.tape, h.output, h.size, h.block⟩
section
variable {a0 a1 : Addr}
theorem unexp_nil (w : World) (h : Ers a0 a1 w) : Calls Tryd.prog 8 #[.nilIface] w fun e w' => e = .returned .nilIface ∧ w' = w := by
  have h0 := h.c0
  have hl := lt_of_cellD h0
  have e0 := eq_nl w (.pointer (some a0))
  go_enter Tryd.func8, Tryd.ntmps8
  go_wp2
  go_ret
  exact ⟨rfl, rfl⟩
theorem unexp_eof (w : World) (h : Ers a0 a1 w) : Calls Tryd.prog 8 #[EP a0] w fun e w' => e = .returned (EP a1) ∧ w' = w := by
  have h0 := h.c0
  have h1 := h.c1
  have e0 := eq_same w a0
  go_enter Tryd.func8, Tryd.ntmps8
  go_wp2
  go_ret
  exact ⟨rfl, rfl⟩
theorem unexp_oth (b : Addr) (w : World) (h : Ers a0 a1 w) (hb : IsB w b) (hne : b ≠ a0) : Calls Tryd.prog 8 #[EP b] w fun e w' => e = .returned (EP b) ∧ w' = w := by
  have h0 := h.c0
  have e0 := eq_other hne hb h.b0
  go_enter Tryd.func8, Tryd.ntmps8
  go_wp2
  go_ret
  exact ⟨rfl, rfl⟩
abbrev newW (w : World) (s : ByteArray) : World := w.alloc (.cells #[.string s] 32)
theorem newW_below (w : World) (s : ByteArray) : Below w.heap.size w (newW w s) := (Below.refl _ _).alloc (Nat.le_refl _) _
theorem newW_isB (w : World) (s : ByteArray) : IsB (newW w s) ⟨w.heap.size, 0, none⟩ := ⟨#[.string s], 32, by show (w.heap.push _)[w.heap.size]? = _; simp⟩
theorem new_any (s : ByteArray) (w : World) : Calls Tryd.prog 9 #[.string s] w fun e w' => e = .returned (EP ⟨w.heap.size, 0, none⟩) ∧ w' = newW w s := by
  go_enter Tryd.func9, Tryd.ntmps9
  go_wp2
  go_ret
  exact ⟨rfl, rfl⟩
theorem errFor0 (w : World) : Calls Tryd.prog 6 #[.int .i64 0] w fun e w' => e = .returned .nilIface ∧ w' = w := by
  go_enter Tryd.func6, Tryd.ntmps6
  go_wp2
  go_ret
  exact ⟨rfl, rfl⟩
theorem errFor1 (w : World) (h : Ers a0 a1 w) : Calls Tryd.prog 6 #[.int .i64 1] w fun e w' => e = .returned (EP a0) ∧ w' = w := by
  have h0 := h.c0
  go_enter Tryd.func6, Tryd.ntmps6
  go_wp2
  go_ret
  exact ⟨rfl, rfl⟩
theorem errFor2 (w : World) (h : Ers a0 a1 w) : Calls Tryd.prog 6 #[.int .i64 2] w fun e w' => e = .returned (EP a1) ∧ w' = w := by
  have h0 := h.c1
  go_enter Tryd.func6, Tryd.ntmps6
  go_wp2
  go_ret
  exact ⟨rfl, rfl⟩
theorem errForK (k : Int) (w : World) (k0 : (k == 0) = false) (k1 : (k == 1) = false) (k2 : (k == 2) = false) : Calls Tryd.prog 6 #[.int .i64 k] w fun e w' => e = .returned (EP ⟨w.heap.size, 0, none⟩) ∧ ∃ s, w' = newW w s := by
  by_cases k3 : k = 3
  · subst k3
    clear k0 k1 k2
    go_enter Tryd.func6, Tryd.ntmps6
    go_wp2_with fail
    refine (new_any _ _).mono ?_
    rintro r w1 ⟨rfl, rfl⟩
    go_wp2
    go_ret
    exact ⟨rfl, _, rfl⟩
  · have k3' : (k == 3) = false := by simpa using k3
    go_enter Tryd.func6, Tryd.ntmps6
    go_wp2_with fail
    refine (new_any _ _).mono ?_
    rintro r w1 ⟨rfl, rfl⟩
    go_wp2
    go_ret
    exact ⟨rfl, _, rfl⟩
theorem code_nil (x : Value) (w : World) : Calls Tryd.prog 7 #[.nilIface, x] w fun e w' => e = .returned (.int .i64 0) ∧ w' = w := by
  have e0 := eq_nn w
  go_enter Tryd.func7, Tryd.ntmps7
  go_wp2
  go_ret
  exact ⟨rfl, rfl⟩
theorem code_unexp (x : Value) (w : World) (h : Ers a0 a1 w) : Calls Tryd.prog 7 #[EP a1, x] w fun e w' => e = .returned (.int .i64 2) ∧ w' = w := by
  have h0 := h.c0
  have h1 := h.c1
  have e0 := eq_nr w (.pointer (some a1))
  have e1 := eq_other (Ne.symm h.ne) h.b1 h.b0
  have e2 := eq_same w a1
  go_enter Tryd.func7, Tryd.ntmps7
  go_wp2
  go_ret
  exact ⟨rfl, rfl⟩
theorem code_oth (b : Addr) (w : World) (h : Ers a0 a1 w) (hb : IsB w b) (hne : b ≠ a0) (hne1 : b ≠ a1) : Calls Tryd.prog 7 #[EP b, EP b] w fun e w' => e = .returned (.int .i64 3) ∧ w' = w := by
  have h0 := h.c0
  have h1 := h.c1
  have e0 := eq_nr w (.pointer (some b))
  have e0' := ne_nr w (.pointer (some b))
  have e1 := eq_other hne hb h.b0
  have e2 := eq_other hne1 hb h.b1
  have e3 := eq_same w b
  go_enter Tryd.func7, Tryd.ntmps7
  go_wp2
  go_ret
  exact ⟨rfl, rfl⟩
theorem new_ne {w : World} {a : Addr} (h : IsB w a) : (⟨w.heap.size, 0, none⟩ : Addr) ≠ a := fun e => by
  have := h.lt
  rw [← e] at this
  exact Nat.lt_irrefl _ this

/-- What ZZunexpectedCode answers. -/
def codeOf (k : Int) : Int := if k = 0 then 0 else if k = 1 then 2 else if k = 2 then 2 else 3
theorem code_any (k : Int) (w : World) (h : Ers a0 a1 w) : Calls Tryd.prog 4 #[.int .i64 k] w fun e w' => e = .returned (.int .i64 (codeOf k)) ∧ Below w.heap.size w w' := by
  have H : Hid (Ers a0 a1 w) := h
  clear h
  by_cases k0 : k = 0
  · subst k0
    go_enter Tryd.func4, Tryd.ntmps4
    go_wp2_with fail
    refine (errFor0 _).mono ?_
    rintro r w1 ⟨rfl, rfl⟩
    go_wp2_with fail
    refine (unexp_nil _ H.out).mono ?_
    rintro r w1 ⟨rfl, rfl⟩
    go_wp2_with fail
    refine (code_nil _ _).mono ?_
    rintro r w1 ⟨rfl, rfl⟩
    go_wp2
    go_ret
    exact ⟨rfl, Below.refl _ _⟩
  by_cases k1 : k = 1
  · subst k1
    go_enter Tryd.func4, Tryd.ntmps4
    go_wp2_with fail
    refine (errFor1 _ H.out).mono ?_
    rintro r w1 ⟨rfl, rfl⟩
    go_wp2_with fail
    refine (unexp_eof _ H.out).mono ?_
    rintro r w1 ⟨rfl, rfl⟩
    go_wp2_with fail
    refine (code_unexp _ _ H.out).mono ?_
    rintro r w1 ⟨rfl, rfl⟩
    go_wp2
    go_ret
    exact ⟨rfl, Below.refl _ _⟩
  by_cases k2 : k = 2
  · subst k2
    go_enter Tryd.func4, Tryd.ntmps4
    go_wp2_with fail
    refine (errFor2 _ H.out).mono ?_
    rintro r w1 ⟨rfl, rfl⟩
    go_wp2_with fail
    refine (unexp_oth a1 _ H.out H.out.b1 (Ne.symm H.out.ne)).mono ?_
    rintro r w1 ⟨rfl, rfl⟩
    go_wp2_with fail
    refine (code_unexp _ _ H.out).mono ?_
    rintro r w1 ⟨rfl, rfl⟩
    go_wp2
    go_ret
    exact ⟨rfl, Below.refl _ _⟩
  · have HK : Hid (codeOf k = 3) := by show _ = _; simp [codeOf, k0, k1, k2]
    have HC : Hid (Calls Tryd.prog 6 #[.int .i64 k] w fun e w' => e = .returned (EP ⟨w.heap.size, 0, none⟩) ∧ ∃ s, w' = newW w s) := errForK k w (by simpa using k0) (by simpa using k1) (by simpa using k2)
    clear k0 k1 k2
    go_enter Tryd.func4, Tryd.ntmps4
    go_wp2_with fail
    refine Calls.mono HC.out ?_
    rintro r w1 ⟨rfl, s, rfl⟩
    have HE : Hid (Ers a0 a1 (newW w s)) := H.out.kept (newW_below w s)
    go_wp2_with fail
    refine (unexp_oth _ _ HE.out (newW_isB w s) (new_ne H.out.b0)).mono ?_
    rintro r w1 ⟨rfl, rfl⟩
    go_wp2_with fail
    refine (code_oth _ _ HE.out (newW_isB w s) (new_ne H.out.b0) (new_ne H.out.b1)).mono ?_
    rintro r w1 ⟨rfl, rfl⟩
    go_wp2
    go_ret
    exact ⟨by rw [HK.out]; rfl, newW_below w s⟩

theorem idem_any (k : Int) (w : World) (h : Ers a0 a1 w) : Calls Tryd.prog 5 #[.int .i64 k] w fun e w' => e = .returned (.bool true) ∧ Below w.heap.size w w' := by
  have H : Hid (Ers a0 a1 w) := h
  clear h
  by_cases k0 : k = 0
  · subst k0
    have e0 := eq_nn
    go_enter Tryd.func5, Tryd.ntmps5
    go_wp2_with fail
    refine (errFor0 _).mono ?_
    rintro r w1 ⟨rfl, rfl⟩
    go_wp2_with fail
    refine (unexp_nil _ H.out).mono ?_
    rintro r w1 ⟨rfl, rfl⟩
    go_wp2_with fail
    refine (unexp_nil _ H.out).mono ?_
    rintro r w1 ⟨rfl, rfl⟩
    go_wp2
    go_quiet (fail)
    go_wp2
    go_ret
    exact ⟨rfl, below_drewN (Below.refl _ _) _⟩
  by_cases k1 : k = 1
  · subst k1
    have e0 := fun w => eq_nr w (.pointer (some a1))
    have e1 := fun w => eq_same w a1
    go_enter Tryd.func5, Tryd.ntmps5
    go_wp2_with fail
    refine (errFor1 _ H.out).mono ?_
    rintro r w1 ⟨rfl, rfl⟩
    go_wp2_with fail
    refine (unexp_eof _ H.out).mono ?_
    rintro r w1 ⟨rfl, rfl⟩
    go_wp2_with fail
    refine (unexp_oth a1 _ H.out H.out.b1 (Ne.symm H.out.ne)).mono ?_
    rintro r w1 ⟨rfl, rfl⟩
    go_wp2
    go_quiet (fail)
    go_wp2
    go_ret
    exact ⟨rfl, below_drewN (Below.refl _ _) _⟩
  by_cases k2 : k = 2
  · subst k2
    have e0 := fun w => eq_nr w (.pointer (some a1))
    have e1 := fun w => eq_same w a1
    go_enter Tryd.func5, Tryd.ntmps5
    go_wp2_with fail
    refine (errFor2 _ H.out).mono ?_
    rintro r w1 ⟨rfl, rfl⟩
    go_wp2_with fail
    refine (unexp_oth a1 _ H.out H.out.b1 (Ne.symm H.out.ne)).mono ?_
    rintro r w1 ⟨rfl, rfl⟩
    go_wp2_with fail
    refine (unexp_oth a1 _ H.out H.out.b1 (Ne.symm H.out.ne)).mono ?_
    rintro r w1 ⟨rfl, rfl⟩
    go_wp2
    go_quiet (fail)
    go_wp2
    go_ret
    exact ⟨rfl, below_drewN (Below.refl _ _) _⟩
  · have HC : Hid (Calls Tryd.prog 6 #[.int .i64 k] w fun e w' => e = .returned (EP ⟨w.heap.size, 0, none⟩) ∧ ∃ s, w' = newW w s) := errForK k w (by simpa using k0) (by simpa using k1) (by simpa using k2)
    clear k0 k1 k2
    go_enter Tryd.func5, Tryd.ntmps5
    go_wp2_with fail
    refine Calls.mono HC.out ?_
    rintro r w1 ⟨rfl, s, rfl⟩
    have HE : Hid (Ers a0 a1 (newW w s)) := H.out.kept (newW_below w s)
    have HN : Hid ((⟨w.heap.size, 0, none⟩ : Addr) ≠ a0) := new_ne H.out.b0
    have HI : Hid (IsB (newW w s) ⟨w.heap.size, 0, none⟩) := newW_isB w s
    have HB : Hid (Below w.heap.size w (newW w s)) := newW_below w s
    obtain ⟨W1, hW1⟩ : ∃ W1, W1 = newW w s := ⟨_, rfl⟩
    obtain ⟨b, hb⟩ : ∃ b : Addr, b = ⟨w.heap.size, 0, none⟩ := ⟨_, rfl⟩
    rw [← hW1] at HE HI HB ⊢
    rw [← hb] at HI HN ⊢
    clear hb hW1
    go_wp2_with fail
    refine (unexp_oth _ _ HE.out HI.out HN.out).mono ?_
    rintro r w1 ⟨rfl, rfl⟩
    go_wp2_with fail
    refine (unexp_oth _ _ HE.out HI.out HN.out).mono ?_
    rintro r w1 ⟨rfl, rfl⟩
    have e0 := fun w => eq_nr w (.pointer (some b))
    have e1 := fun w => eq_same w b
    go_wp2
    go_quiet (fail)
    go_wp2
    go_ret
    exact ⟨rfl, below_drewN HB.out _⟩

theorem law_any (k : Int) (w : World) (h : Ers a0 a1 w) : Calls Tryd.prog 3 #[.int .i64 k] w fun e w' => e = .returned (.bool true) ∧ Below w.heap.size w w' := by
  have H : Hid (Ers a0 a1 w) := h
  clear h
  go_enter Tryd.func3, Tryd.ntmps3
  go_wp2_with fail
  refine (code_any k _ H.out).mono ?_
  rintro r w1 ⟨rfl, hb1⟩
  have H1 : Hid (Ers a0 a1 w1) := H.out.kept hb1
  have HB1 : Hid (Below w.heap.size w w1) := hb1
  clear hb1
  go_wp2_with fail
  refine (idem_any k _ H1.out).mono ?_
  rintro r w2 ⟨rfl, hb2⟩
  have HB2 : Hid (Below w.heap.size w w2) := HB1.out.trans (hb2.mono HB1.out.size)
  clear hb2
  have c1 : (codeOf k != 1) = true := by unfold codeOf; split <;> (try split) <;> (try split) <;> rfl
  by_cases k0 : k = 0
  · subst k0
    have c2 : codeOf 0 = 0 := rfl
    rw [c2]
    go_wp2
    go_ret
    exact ⟨rfl, HB2.out⟩
  have k0' : (k == 0) = false := by simpa using k0
  have c2 : (codeOf k == 0) = false := by unfold codeOf; rw [if_neg k0]; split <;> (try split) <;> rfl
  by_cases k1 : k = 1
  · subst k1
    have c3 : codeOf 1 = 2 := rfl
    rw [c3]
    go_wp2
    go_ret
    exact ⟨rfl, HB2.out⟩
  have k1' : (k != 1) = true := by simpa using k1
  generalize codeOf k = c at *
  go_wp2
  go_ret
  exact ⟨rfl, HB2.out⟩
end
end Go.Proofs.Qxb6604491aDoor
