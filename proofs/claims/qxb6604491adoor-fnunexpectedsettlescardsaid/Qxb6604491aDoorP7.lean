/-
  THE STATEMENT 'Rows.FnUnexpectedSettlesCardSaid': the row, then the tied card.
-/
import Derived.Test.Qxb6604491aDoorRows
import Derived.Test.Qxb6604491aDoorCards
import Derived.Test.Qxb6604491aDoorTie
import Derived.Test.Qxb6604491aDoorWalks
import Derived.ChangeSame
import Derived.ChangeVars
import Derived.JoinedOf
import Derived.RowKit
import Derived.RowKitTokens
import Derived.LaidLaws
import Derived.SevenTiedAt
namespace Go.Proofs.Qxb6604491aDoor
open Go.ChangeShapes Go.WideShapes Go.RowKit

theorem own : ownKnob Tryd.prog.godebug = none := by kernel_rfl
theorem eof : Tryd.prog.globalNamed "io.EOF" = some 0 := by kernel_rfl
theorem uneof : Tryd.prog.globalNamed "io.ErrUnexpectedEOF" = some 1 := by kernel_rfl
theorem eofType : (Tryd.prog.globals[0]?).map (·.type) = some 25 := by kernel_rfl
theorem uneofType : (Tryd.prog.globals[1]?).map (·.type) = some 25 := by kernel_rfl
theorem cells32 : Tryd.prog.cellsOf 32 = 1 := by kernel_rfl
theorem cells9 : Tryd.prog.cellsOf 9 = 1 := by kernel_rfl
theorem star : "*" ++ "errors.errorString" = "*errors.errorString" := by decide
theorem row30 (u : TypeId) (h : Tryd.prog.typeName? 3 u = some "*errors.errorString") : u = 30 :=
  typeName_ptr_named (nm := "errors.errorString") (by rw [star]; kernel_rfl) (by kernel_rfl) (by decide) u (by rw [star]; exact h)

abbrev laid2 : List (String × DataW Unit) := [("io.EOF", Rows.laid_io_EOF), ("io.ErrUnexpectedEOF", Rows.laid_io_ErrUnexpectedEOF)]
/-- What the condition gives the walks. -/
theorem ers_of_laid {W : World} (h : laidMet Tryd.prog laid2 W) : ∃ a0 a1, Ers a0 a1 W := by
  obtain ⟨ps, ⟨g0, t0, cs0, f0, p0, q0, hg0, ht0, hv0, hd0, ⟨g1, t1, cs1, f1, p1, q1, hg1, ht1, hv1, hd1, hq1, e1⟩, e0⟩, hnd, hrows⟩ := h
  obtain rfl := Option.some.inj (eof.symm.trans hg0)
  obtain rfl := Option.some.inj (uneof.symm.trans hg1)
  obtain rfl := Option.some.inj (eofType.symm.trans ht0)
  obtain rfl := Option.some.inj (uneofType.symm.trans ht1)
  have hq1' : q1 = [] := hq1
  subst hq1'
  subst e1
  subst e0
  obtain ⟨l0⟩ := cs0
  obtain ⟨l1⟩ := cs1
  have ok0 : ∀ u v, l0 = [.iface u v] → Value.okWide Tryd.prog W .any 0 u v := fun u v e => by
    subst e
    exact (hrows 0 0 (by simp [MemPlace.row])).2 u v (by simpa using World.var?_cell hg0 hv0 0)
  have ok1 : ∀ u v, l1 = [.iface u v] → Value.okWide Tryd.prog W .any 0 u v := fun u v e => by
    subst e
    exact (hrows 1 0 (by simp [MemPlace.row])).2 u v (by simpa using World.var?_cell hg1 hv1 0)
  obtain ⟨a0, s0, rfl, hc0, hs0, hz0, rfl⟩ := errorString_of_trod Tryd.underlying25 row30 Tryd.underlying30 Tryd.underlying32 rfl rfl Tryd.underlying9 cells32 cells9 hd0 ok0
  obtain ⟨a1, s1, rfl, hc1, hs1, hz1, rfl⟩ := errorString_of_trod Tryd.underlying25 row30 Tryd.underlying30 Tryd.underlying32 rfl rfl Tryd.underlying9 cells32 cells9 hd1 ok1
  obtain ⟨c0, t0, hb0⟩ := (hrows a0.block a0.off (by simp [MemPlace.row])).1
  obtain ⟨c1, t1, hb1⟩ := (hrows a1.block a1.off (by simp [MemPlace.row])).1
  refine ⟨a0, a1, by simpa using World.var?_cell hg0 hv0 0, by simpa using World.var?_cell hg1 hv1 0, ?_, ⟨c0, t0, hb0⟩, ⟨c1, t1, hb1⟩⟩
  rintro rfl
  simp [MemPlace.row] at hnd

abbrev eofS : ByteArray := { data := #[69, 79, 70] }
abbrev uneofS : ByteArray := { data := #[117, 110, 101, 120, 112, 101, 99, 116, 101, 100, 32, 69, 79, 70] }
noncomputable def low : Nat := (World.holding Tryd.prog default ⟨#[], #[], []⟩).heap.size
/-- A world that meets the condition: the settled one, the two errors laid. -/
noncomputable def laidWorld (os : Os) : World :=
  let w0 := World.holding Tryd.prog os ⟨#[.cells #[.string eofS] 32, .cells #[.string uneofS] 32], #[], []⟩
  { w0 with heap := (w0.heap.modify 0 fun
      | .cells _ t frozen => .cells #[.iface 30 (.pointer (some ⟨low, 0, none⟩))] t frozen
      | o => o).modify 1 fun
      | .cells _ t frozen => .cells #[.iface 30 (.pointer (some ⟨low + 1, 0, none⟩))] t frozen
      | o => o }
theorem laidWorld_met (os : Os) (args : Array Value) : laidMet Tryd.prog laid2 ((laidWorld os).forCall (fun _ _ => 0) ⟨#[], args, []⟩).memory :=
  laidMet_of_run (ps := [.cell 0 0, .cell low 0, .cell 1 0, .cell (low + 1) 0]) 8 (by kernel_rfl) (by kernel_rfl) (by kernel_rfl)

set_option maxRecDepth 100000 in
theorem law_lifted (os : Os) (started : os.Started) (H : Type) (enc : TypeId × Value → H) :
    ReturnsInHanded {} Tryd.checked os 3 .any (fun w args => (Rows.fnUnexpectedSettlesSpec.pre enc Tryd.prog Tryd.f3 [] false w args ∧ laidMet Tryd.prog laid2 w) ∧ sizedMet enc Tryd.prog Tryd.f3 (OpenSpec.ofChange Rows.fnUnexpectedSettlesSpec) false w args)
      (Rows.fnUnexpectedSettlesSpec.post enc Tryd.prog Tryd.f3 false true false false) := by
  refine returnsInHanded_of_change_and (C := Tryd.checked) (X := fun w _ => laidMet Tryd.prog laid2 w) (fun _ _ _ hh h => h.of_heap hh) own started (by kernel_rfl) Tryd.func3
    (ChangeSpec.witness_at (enc := enc) (C := Tryd.checked) (os := os) (X := fun w _ => laidMet Tryd.prog laid2 w) false (laidWorld os) #[.int .i64 0] 8 rfl (by kernel_rfl) (by kernel_rfl) (by kernel_rfl) (by kernel_rfl) (by kernel_rfl) (laidWorld_met os _)) ?_
  intro W base args ds gs before hval0 hW _ _ hL _
  have hval : ∀ (j : Nat) t v, Tryd.f3.params[j]? = some t → args[j]? = some v → Value.okWide Tryd.prog W .any base t v := hval0
  have hW' := hW
  obtain ⟨p, q, hA0, hV0, rfl, hfz, hnd⟩ := hW
  have hA : DataW.TrodAll enc Tryd.prog W 0 (fun _ => true) true Tryd.f3.params.toList args.toList ds p := hA0
  have hV : DataW.TrodVars enc Tryd.prog W (fun _ => true) [] gs q := hV0
  rw [Tryd.params3] at hA hval
  obtain ⟨v0, d0, rfl, rfl, h0⟩ := trodAll_one hA
  obtain ⟨n, rfl, rfl, rfl, hwn⟩ := open_int Tryd.underlying3 (hval 0 3 v0 rfl rfl) h0
  obtain ⟨a0, a1, hE⟩ := ers_of_laid hL
  obtain ⟨rfl, rfl⟩ : gs = [] ∧ q = [] := by
    cases gs with
    | nil => exact ⟨rfl, hV⟩
    | cons g r => exact absurd hV (by intro h; cases h)
  have e1 : Rows.fnUnexpectedSettlesSpec.fn H ([.lit (.int .i64 n)] ++ []) = { results := [.lit (.bool true)], args := [.lit (.int .i64 n)] } := by simp [Rows.fnUnexpectedSettlesSpec]
  refine (law_any n W hE).mono fun e W' ⟨he, bel⟩ => ?_
  subst he
  refine ⟨_, rfl, _, _, _, [], [], [], hW', ?_, ?_, ?_, bel.frame _, fun h => by cases h⟩
  · rw [e1]; exact trodAll_mk1 (shut_bool Tryd.underlying4 true)
  · rw [e1]; exact trodAll_mk1 (shut_int Tryd.underlying3 hwn)
  · rw [e1]; rfl

theorem row_holds : Rows.FnUnexpectedSettlesSaid :=
  OpenClaim.holds_of_wide 3 Tryd.f3 rfl rfl rfl rfl rfl rfl rfl ⟨rfl, rfl, rfl, rfl, rfl⟩ rfl rfl rfl rfl rfl (by kernel_rfl) Tryd.func3 (by kernel_rfl)
    (of_decide_eq_true (by kernel_rfl)) (by unfold Func.isWrapper; first | (rw [if_pos (by decide +kernel)]; kernel_rfl) | (rw [if_neg (by decide +kernel)]; exact ⟨rfl, rfl⟩))
    (fun os started H enc _ => law_lifted os started H enc)

/-- THE STATEMENT: the tied card. -/
theorem fnUnexpectedSettlesCardProved : Rows.FnUnexpectedSettlesCardSaid :=
  Claim7.holds_tied_plain_at .later [] [.sentinel, .sentinel] true (true, "a4e72d4bd4644b9b4657cb7d7e308c1e5bde3780254a18829975cb8ccc70f219") true
    row_holds (fun _ h => by cases h) (by kernel_rfl) (fun _ h => by cases h) fnUnexpectedSettles_row_tie rfl ⟨rfl, rfl⟩ (by kernel_rfl) rfl
    (fun f fn hf hfn => by
      obtain rfl : f = 3 := Option.some.inj ((show Tryd.prog.funcNamed "example.com/caduceus/caduceus/zzlaws_internal_resp_b1.FnUnexpectedSettles" = some 3 by kernel_rfl).symm.trans hf) |>.symm
      obtain rfl : fn = Tryd.f3 := (Option.some.inj (Tryd.func3.symm.trans hfn)).symm
      exact ⟨by kernel_rfl, fun j t ht => by
        rw [Tryd.params3] at ht
        have h3 : t = 3 := by
          rcases j with _ | j
          · simpa using ht.symm
          · simp at ht
        subst h3
        exact (show Tryd.prog.wantsStandIn 3 = false by kernel_rfl)⟩)
    (by kernel_rfl)
end Go.Proofs.Qxb6604491aDoor
