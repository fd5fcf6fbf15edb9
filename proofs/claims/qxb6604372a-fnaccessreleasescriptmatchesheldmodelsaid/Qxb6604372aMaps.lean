/-
  THE THREE MAPS OF THE AUDITOR, AT THE LEVEL OF RUNS: keys are structs of two or three ints, elements are pointers to whole blocks.
-/
import Derived.Test.Qxb6604372aRows
import Derived.WalkKit
import Derived.ProofKit
namespace Go.Proofs.Qxb6604372a
open Go.ChangeShapes Go.WideShapes Go.ChangeAt Go.RowKit

/-- A pointer to the head of block b. -/
abbrev pv (b : Nat) : Value := .pointer (some ⟨b, 0, none⟩)
/-- A key of two ints (an incarnation; a page's key). -/
abbrev k2 (k : Int × Int) : Value := .agg #[.int .i64 k.1, .int .i64 k.2]
/-- A key of three ints (a cohort's key). -/
abbrev k3 (k : Int × Int × Int) : Value := .agg #[.int .i64 k.1, .int .i64 k.2.1, .int .i64 k.2.2]

/-! ### Equality of keys -/
theorem run_eq3 (d : Nat) (w : World) (a b : Int) : (Op.equalIn (d + 1) 3 (.int .i64 a) (.int .i64 b)).run Try.prog w = .ok (a == b) w := by
  simp [Op.equalIn, run_underlying Try.underlying3]
theorem part3_at (cs : Array Value) (v : Value) (w : World) (o : Nat) (h : cs[o]? = some v) : (part 3 cs o).run Try.prog w = .ok v w := by
  simp [part, isAgg, run_underlying Try.underlying3, h]
theorem part67_at (a b c : Int) (w : World) : (part 67 #[.int .i64 a, .int .i64 b, .int .i64 c] 0).run Try.prog w = .ok (.agg #[.int .i64 a, .int .i64 b]) w := by kernel_rfl

theorem run_eq67 (d : Nat) (w : World) (k k' : Int × Int) : (Op.equalIn (d + 2) 67 (k2 k) (k2 k')).run Try.prog w = .ok (k == k') w := by
  obtain ⟨a, b⟩ := k; obtain ⟨a', b'⟩ := k'
  rw [Op.equalIn]
  simp [run_underlying Try.underlying67, part3_at, run_eq3]
  by_cases h1 : a = a' <;> by_cases h2 : b = b' <;> simp [h1, h2]
theorem run_eq84 (d : Nat) (w : World) (k k' : Int × Int) : (Op.equalIn (d + 2) 84 (k2 k) (k2 k')).run Try.prog w = .ok (k == k') w := by
  obtain ⟨a, b⟩ := k; obtain ⟨a', b'⟩ := k'
  rw [Op.equalIn]
  simp [run_underlying Try.underlying84, part3_at, run_eq3]
  by_cases h1 : a = a' <;> by_cases h2 : b = b' <;> simp [h1, h2]
theorem run_eq71 (d : Nat) (w : World) (k k' : Int × Int × Int) : (Op.equalIn (d + 3) 71 (k3 k) (k3 k')).run Try.prog w = .ok (k == k') w := by
  obtain ⟨a, b, c⟩ := k; obtain ⟨a', b', c'⟩ := k'
  rw [Op.equalIn]
  simp [run_underlying Try.underlying71, part67_at]
  have h := fun w => run_eq67 d w (a, b) (a', b')
  simp only [k2] at h
  simp [part3_at, run_eq3, h]
  by_cases h1 : a = a' <;> by_cases h2 : b = b' <;> by_cases h3 : c = c' <;> simp [h1, h2, h3]

theorem check3 (e : Bool) (d : Nat) (w : World) (a : Int) : (Instr.checkKey e (d + 1) 3 (.int .i64 a)).run Try.prog w = .ok () w := by
  simp [Instr.checkKey, run_underlying Try.underlying3]
theorem check67 (e : Bool) (d : Nat) (w : World) (k : Int × Int) : (Instr.checkKey e (d + 2) 67 (k2 k)).run Try.prog w = .ok () w := by
  rw [Instr.checkKey]
  simp [run_underlying Try.underlying67, part3_at, check3]
theorem check84 (e : Bool) (d : Nat) (w : World) (k : Int × Int) : (Instr.checkKey e (d + 2) 84 (k2 k)).run Try.prog w = .ok () w := by
  rw [Instr.checkKey]
  simp [run_underlying Try.underlying84, part3_at, check3]
theorem check71 (e : Bool) (d : Nat) (w : World) (k : Int × Int × Int) : (Instr.checkKey e (d + 3) 71 (k3 k)).run Try.prog w = .ok () w := by
  obtain ⟨a, b, c⟩ := k
  rw [Instr.checkKey]
  have h := fun w => check67 e d w (a, b)
  simp only [k2] at h
  simp [run_underlying Try.underlying71, part67_at, part3_at, check3, h]

/-! ### Looking a key up -/
section
variable {K : Type} {kv : K → Value} {kt : TypeId}

/-- The entries es bear the keys and blocks of l, in that order. -/
def Ents (kv : K → Value) (es : List MapEntry) (l : List (K × Nat)) : Prop := es.map (fun e => (e.key, e.val)) = l.map (fun p => (kv p.1, pv p.2))

theorem run_findAsking [BEq K] [LawfulBEq K] (heq : ∀ (w : World) (k k' : K), (Op.equal kt (kv k) (kv k')).run Try.prog w = .ok (k == k') w) (k : K) (w : World) :
    ∀ (es : List MapEntry) (l : List (K × Nat)) (i : Nat), Ents kv es l → ∃ j, (Instr.findAsking kt (kv k) es i).run Try.prog w = .ok ((l.lookup k).map fun b => (j, pv b)) w := by
  intro es
  induction es with
  | nil => intro l i h; cases l with
    | nil => exact ⟨0, by simp [Instr.findAsking]⟩
    | cons p l => simp [Ents] at h
  | cons e es ih => intro l i h; cases l with
    | nil => simp [Ents] at h
    | cons p l =>
      obtain ⟨k', b⟩ := p
      simp only [Ents, List.map_cons, List.cons.injEq, Prod.mk.injEq] at h
      obtain ⟨⟨h1, h2⟩, h3⟩ := h
      rw [Instr.findAsking]
      simp only [h1, h2]
      by_cases hk : k = k'
      · subst hk
        exact ⟨i, by simp [heq]⟩
      · obtain ⟨j, hj⟩ := ih l (i + 1) h3
        have hb : (k == k') = false := by simpa using hk
        refine ⟨j, ?_⟩
        simp [heq, hj, hb, List.lookup]

theorem run_findKey [BEq K] [LawfulBEq K] (heq : ∀ (w : World) (k k' : K), (Op.equal kt (kv k) (kv k')).run Try.prog w = .ok (k == k') w) (fs : Array Field) (hu : Try.prog.underlying kt = some (.struct fs)) (k : K) (w : World)
    (es : List MapEntry) (l : List (K × Nat)) (h : Ents kv es l) : ∃ j, (Instr.findKey kt (kv k) es).run Try.prog w = .ok ((l.lookup k).map fun b => (j, pv b)) w := by
  cases es with
  | nil => cases l with
    | nil => exact ⟨0, by simp [Instr.findKey, run_underlying hu, Instr.findNow]⟩
    | cons p l => simp [Ents] at h
  | cons e es =>
    obtain ⟨j, hj⟩ := run_findAsking heq k w (e :: es) l 0 h
    refine ⟨j, ?_⟩
    have hn : ∀ v, Instr.findNow (.struct fs) v (e :: es) 0 = none := by intro v; simp [Instr.findNow, Instr.sameNow]
    simp [Instr.findKey, run_underlying hu, hn, hj]

/-- Block r is a map that bears the keys and blocks of l, in that order. -/
def MapIs (kv : K → Value) (w : World) (r : Nat) (l : List (K × Nat)) : Prop := ∃ es ck, w.heap[r]? = some (.map es ck) ∧ Ents kv es.toList l

/-- The pointer that a look-up hands back. -/
abbrev opv (b : Option Nat) : Value := .pointer (b.map fun b => ⟨b, 0, none⟩)

theorem MapIs.of_block {w w' : World} {r : Nat} {l : List (K × Nat)} (h : MapIs kv w r l) (hb : w'.heap[r]? = w.heap[r]?) : MapIs kv w' r l := by
  obtain ⟨es, ck, h1, h2⟩ := h
  exact ⟨es, ck, hb.trans h1, h2⟩
theorem MapIs.lt {w : World} {r : Nat} {l : List (K × Nat)} (h : MapIs kv w r l) : r < w.heap.size := by
  obtain ⟨es, ck, h1, _⟩ := h
  exact (Array.getElem?_eq_some_iff.1 h1).1

theorem run_lookup [BEq K] [LawfulBEq K] (mt et : TypeId) (hm : Try.prog.underlying mt = some (.map kt et)) (hz : ∀ w, (zeroValue et).run Try.prog w = .ok (.pointer none) w)
    (heq : ∀ (w : World) (k k' : K), (Op.equal kt (kv k) (kv k')).run Try.prog w = .ok (k == k') w) (hck : ∀ (e : Bool) (w : World) (k : K), (Instr.checkKey e 10000 kt (kv k)).run Try.prog w = .ok () w)
    (fs : Array Field) (hu : Try.prog.underlying kt = some (.struct fs)) (w : World) (r : Nat) (l : List (K × Nat)) (h : MapIs kv w r l) (k : K) :
    (Instr.lookup mt (.map (some r)) (kv k) false).run Try.prog w = .ok (opv (l.lookup k)) w := by
  obtain ⟨es, ck, h1, h2⟩ := h
  obtain ⟨j, hj⟩ := run_findKey heq fs hu k w es.toList l h2
  cases hl : l.lookup k with
  | none => rw [hl] at hj; simp [Instr.lookup, run_underlying hm, MapKept.run_getObj_map h1, hck, hj, hz]
  | some b => rw [hl] at hj; simp [Instr.lookup, run_underlying hm, MapKept.run_getObj_map h1, hck, hj]

theorem run_update [BEq K] [LawfulBEq K] (mt et : TypeId) (hm : Try.prog.underlying mt = some (.map kt et))
    (heq : ∀ (w : World) (k k' : K), (Op.equal kt (kv k) (kv k')).run Try.prog w = .ok (k == k') w) (hck : ∀ (e : Bool) (w : World) (k : K), (Instr.checkKey e 10000 kt (kv k)).run Try.prog w = .ok () w)
    (fs : Array Field) (hu : Try.prog.underlying kt = some (.struct fs)) (w : World) (r : Nat) (l : List (K × Nat)) (h : MapIs kv w r l) (k : K) (hn : l.lookup k = none) (b : Nat) :
    ∃ o, (Instr.mapUpdate mt (.map (some r)) (kv k) (pv b)).run Try.prog w = .ok () (ChangeMaps.setBlock w r o) ∧ MapIs kv (ChangeMaps.setBlock w r o) r (l ++ [(k, b)]) := by
  have hlt := h.lt
  obtain ⟨es, ck, h1, h2⟩ := h
  obtain ⟨j, hj⟩ := run_findKey heq fs hu k w es.toList l h2
  rw [hn] at hj
  refine ⟨.map (es.push { key := kv k, val := pv b, born := ck }) (ck + 1), ?_, ?_⟩
  · simp [Instr.mapUpdate, run_underlying hm, MapKept.run_getObj_map h1, MapKept.run_setObj_map _ h1, hck, hj, ChangeMaps.setBlock]
  · refine ⟨_, _, (by simp [ChangeMaps.setBlock, hlt]; exact ⟨rfl, rfl⟩), ?_⟩
    simp [Ents] at h2 ⊢
    exact h2

theorem run_lenMap (mt et : TypeId) (hm : Try.prog.underlying mt = some (.map kt et)) (ty : TypeId) (w : World) (r : Nat) (l : List (K × Nat)) (h : MapIs kv w r l) :
    (Builtin.len_ #[mt] ty #[.map (some r)]).run Try.prog w = .ok (.int .i64 l.length) w := by
  obtain ⟨es, ck, h1, h2⟩ := h
  have : es.size = l.length := by have := congrArg List.length h2; simpa using this
  simp [Builtin.len_, run_underlying hm, MapKept.run_getObj_map h1, goInt, this]
end

theorem eq59 (w : World) (k k' : Int × Int) : (Op.equal 67 (k2 k) (k2 k')).run Try.prog w = .ok (k == k') w := run_eq67 9998 w k k'
theorem eq60 (w : World) (k k' : Int × Int × Int) : (Op.equal 71 (k3 k) (k3 k')).run Try.prog w = .ok (k == k') w := run_eq71 9997 w k k'
theorem eq61 (w : World) (k k' : Int × Int) : (Op.equal 84 (k2 k) (k2 k')).run Try.prog w = .ok (k == k') w := run_eq84 9998 w k k'
theorem zero90 (w : World) : (zeroValue 90).run Try.prog w = .ok (.pointer none) w := by kernel_rfl
theorem zero30 (w : World) : (zeroValue 30).run Try.prog w = .ok (.pointer none) w := by kernel_rfl
theorem zero87 (w : World) : (zeroValue 87).run Try.prog w = .ok (.pointer none) w := by kernel_rfl

theorem lookup59 (w : World) (r : Nat) (l : List ((Int × Int) × Nat)) (h : MapIs k2 w r l) (a b : Int) :
    (Instr.lookup 59 (.map (some r)) (.agg #[.int .i64 a, .int .i64 b]) false).run Try.prog w = .ok (opv (l.lookup (a, b))) w :=
  run_lookup 59 90 Try.underlying59 zero90 eq59 (fun e w k => check67 e 9998 w k) _ Try.underlying67 w r l h (a, b)
theorem lookup60 (w : World) (r : Nat) (l : List ((Int × Int × Int) × Nat)) (h : MapIs k3 w r l) (a b c : Int) :
    (Instr.lookup 60 (.map (some r)) (.agg #[.int .i64 a, .int .i64 b, .int .i64 c]) false).run Try.prog w = .ok (opv (l.lookup (a, b, c))) w :=
  run_lookup 60 30 Try.underlying60 zero30 eq60 (fun e w k => check71 e 9997 w k) _ Try.underlying71 w r l h (a, b, c)
theorem lookup61 (w : World) (r : Nat) (l : List ((Int × Int) × Nat)) (h : MapIs k2 w r l) (a b : Int) :
    (Instr.lookup 61 (.map (some r)) (.agg #[.int .i64 a, .int .i64 b]) false).run Try.prog w = .ok (opv (l.lookup (a, b))) w :=
  run_lookup 61 87 Try.underlying61 zero87 eq61 (fun e w k => check84 e 9998 w k) _ Try.underlying84 w r l h (a, b)

theorem update59 (w : World) (r : Nat) (l : List ((Int × Int) × Nat)) (h : MapIs k2 w r l) (a b : Int) (hn : l.lookup (a, b) = none) (p : Nat) :
    ∃ o, (Instr.mapUpdate 59 (.map (some r)) (.agg #[.int .i64 a, .int .i64 b]) (pv p)).run Try.prog w = .ok () (ChangeMaps.setBlock w r o) ∧ MapIs k2 (ChangeMaps.setBlock w r o) r (l ++ [((a, b), p)]) :=
  run_update 59 90 Try.underlying59 eq59 (fun e w k => check67 e 9998 w k) _ Try.underlying67 w r l h (a, b) hn p
theorem update60 (w : World) (r : Nat) (l : List ((Int × Int × Int) × Nat)) (h : MapIs k3 w r l) (a b c : Int) (hn : l.lookup (a, b, c) = none) (p : Nat) :
    ∃ o, (Instr.mapUpdate 60 (.map (some r)) (.agg #[.int .i64 a, .int .i64 b, .int .i64 c]) (pv p)).run Try.prog w = .ok () (ChangeMaps.setBlock w r o) ∧ MapIs k3 (ChangeMaps.setBlock w r o) r (l ++ [((a, b, c), p)]) :=
  run_update 60 30 Try.underlying60 eq60 (fun e w k => check71 e 9997 w k) _ Try.underlying71 w r l h (a, b, c) hn p
theorem update61 (w : World) (r : Nat) (l : List ((Int × Int) × Nat)) (h : MapIs k2 w r l) (a b : Int) (hn : l.lookup (a, b) = none) (p : Nat) :
    ∃ o, (Instr.mapUpdate 61 (.map (some r)) (.agg #[.int .i64 a, .int .i64 b]) (pv p)).run Try.prog w = .ok () (ChangeMaps.setBlock w r o) ∧ MapIs k2 (ChangeMaps.setBlock w r o) r (l ++ [((a, b), p)]) :=
  run_update 61 87 Try.underlying61 eq61 (fun e w k => check84 e 9998 w k) _ Try.underlying84 w r l h (a, b) hn p
theorem len59 (ty : TypeId) (w : World) (r : Nat) (l : List ((Int × Int) × Nat)) (h : MapIs k2 w r l) : (Builtin.len_ #[59] ty #[.map (some r)]).run Try.prog w = .ok (.int .i64 l.length) w := run_lenMap 59 90 Try.underlying59 ty w r l h
theorem len60 (ty : TypeId) (w : World) (r : Nat) (l : List ((Int × Int × Int) × Nat)) (h : MapIs k3 w r l) : (Builtin.len_ #[60] ty #[.map (some r)]).run Try.prog w = .ok (.int .i64 l.length) w := run_lenMap 60 30 Try.underlying60 ty w r l h
theorem len61 (ty : TypeId) (w : World) (r : Nat) (l : List ((Int × Int) × Nat)) (h : MapIs k2 w r l) : (Builtin.len_ #[61] ty #[.map (some r)]).run Try.prog w = .ok (.int .i64 l.length) w := run_lenMap 61 87 Try.underlying61 ty w r l h
end Go.Proofs.Qxb6604372a
