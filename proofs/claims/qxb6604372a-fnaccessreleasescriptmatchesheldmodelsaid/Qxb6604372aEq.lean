/-
  '==' and '!=' on pointers to whole blocks, on keys; cells of rows of structs.
-/
import Derived.Test.Qxb6604372aNew
import Derived.LaidEqlPtr
namespace Go.Proofs.Qxb6604372a
open Go.ChangeShapes Go.WideShapes Go.ChangeAt Go.RowKit

def IsCells (w : World) (b : Nat) : Prop := ∃ c t, w.heap[b]? = some (.cells c t (0, 0))
theorem run_ptr_equal (tp te : TypeId) (j : TypeInfo) (hp : Try.prog.underlying tp = some (.pointer te)) (hte : Try.prog.info? te = some j) (hsz : j.size ≠ 0) (w : World) (a b : Nat) (ha : IsCells w a) (hb : IsCells w b) :
    (Op.equal tp (pv a) (pv b)).run Try.prog w = .ok (a == b) w := by
  have hh : ∀ d : Nat, (Op.equalIn (d + 1) tp (pv a) (pv b)).run Try.prog w = .ok (a == b) w := fun d => by
    by_cases h : a = b
    · subst h; simp [Op.equalIn, run_underlying hp, sizeOf, typeInfo, hte, run_sameAddr_same]
    · obtain ⟨ca, ta, ha⟩ := ha
      obtain ⟨cb, tb, hb⟩ := hb
      simp [Op.equalIn, run_underlying hp, sizeOf, typeInfo, hte, hsz, run_sameAddr_other w (a := ⟨a, 0, none⟩) (b := ⟨b, 0, none⟩) (fun e => h (congrArg Addr.block e)) ha hb, h]
  exact hh 9999
theorem eql_ptr (tp : TypeId) (w : World) (a b : Nat) (c : Bool) (h : (Op.equal tp (pv a) (pv b)).run Try.prog w = .ok c w) : (binOp .eql tp (pv a) (pv b)).run Try.prog w = .ok (.bool c) w := by
  simp only [binOp]; simp [h]
theorem neq_ptr (tp : TypeId) (w : World) (a b : Nat) (c : Bool) (h : (Op.equal tp (pv a) (pv b)).run Try.prog w = .ok c w) : (binOp .neq tp (pv a) (pv b)).run Try.prog w = .ok (.bool (!c)) w := by
  simp only [binOp]; simp [h]
theorem eql_agg (tp : TypeId) (w : World) (a b : Array Value) (c : Bool) (h : (Op.equal tp (.agg a) (.agg b)).run Try.prog w = .ok c w) : (binOp .eql tp (.agg a) (.agg b)).run Try.prog w = .ok (.bool c) w := by
  simp only [binOp]; simp [h]
theorem neq_agg (tp : TypeId) (w : World) (a b : Array Value) (c : Bool) (h : (Op.equal tp (.agg a) (.agg b)).run Try.prog w = .ok c w) : (binOp .neq tp (.agg a) (.agg b)).run Try.prog w = .ok (.bool (!c)) w := by
  simp only [binOp]; simp [h]
theorem infoOf {t : TypeId} (s : Nat) (h : (Try.prog.info? t).map (·.size) = some s) (hs : s ≠ 0) : ∃ j, Try.prog.info? t = some j ∧ j.size ≠ 0 := by
  obtain ⟨j, h1, h2⟩ := Option.map_eq_some_iff.1 h
  exact ⟨j, h1, by rw [h2]; exact hs⟩
/-- Pointers to cohorts. -/
theorem equal30 (w : World) (a b : Nat) (ha : IsCells w a) (hb : IsCells w b) : (Op.equal 30 (pv a) (pv b)).run Try.prog w = .ok (a == b) w := by
  obtain ⟨j, hj, hs⟩ := infoOf (t := 69) 2 (by kernel_rfl) (by decide)
  exact run_ptr_equal 30 69 j Try.underlying30 hj hs w a b ha hb
theorem equal29 (w : World) (k k' : K3) : (Op.equal 29 (k3 k) (k3 k')).run Try.prog w = .ok (k == k') w := by
  show (Op.equalIn (9999 + 1) 29 (k3 k) (k3 k')).run Try.prog w = _
  obtain ⟨a, b, c⟩ := k; obtain ⟨a', b', c'⟩ := k'
  rw [Op.equalIn]
  simp [run_underlying Try.underlying29, part3_at, fun w a b => run_eq3 9998 w a b]
  by_cases h1 : a = a' <;> by_cases h2 : b = b' <;> by_cases h3 : c = c' <;> simp [h1, h2, h3]
theorem equal39 (w : World) (lc cv lc' cv' : Int) : (Op.equal 39 (.agg (repCells lc cv)) (.agg (repCells lc' cv'))).run Try.prog w = .ok (lc == lc' && cv == cv') w := by
  have h37 : (Op.equalIn (9998 + 1) 37 (.agg #[.int .i64 lc, .int .i64 0, .int .i64 0, .int .i64 0, .int .i64 cv, .int .i64 0, .int .i64 0]) (.agg #[.int .i64 lc', .int .i64 0, .int .i64 0, .int .i64 0, .int .i64 cv', .int .i64 0, .int .i64 0])).run Try.prog w = .ok (lc == lc' && cv == cv') w := by
    rw [Op.equalIn]
    simp [run_underlying Try.underlying37, part3_at, fun w a b => run_eq3 9997 w a b]
    by_cases h1 : lc = lc' <;> by_cases h2 : cv = cv' <;> simp [h1, h2]
  have p37 : ∀ (a b : Int), (part 37 (repCells a b) 1).run Try.prog w = .ok (.agg #[.int .i64 a, .int .i64 0, .int .i64 0, .int .i64 0, .int .i64 b, .int .i64 0, .int .i64 0]) w := fun a b => by kernel_rfl
  have p3 : ∀ (a b : Int), (part 3 (repCells a b) 0).run Try.prog w = .ok (.int .i64 0) w := fun a b => part3_at _ _ _ _ rfl
  show (Op.equalIn (9999 + 1) 39 _ _).run Try.prog w = _
  rw [Op.equalIn]
  simp [run_underlying Try.underlying39, p37, p3, fun w a b => run_eq3 9998 w a b, h37]
  by_cases h1 : lc = lc' <;> by_cases h2 : cv = cv' <;> simp [h1, h2]

theorem equal39_lit (w : World) (lc cv lc' cv' : Int) : (Op.equalIn 10000 39 (.agg #[.int .i64 0, .int .i64 lc, .int .i64 0, .int .i64 0, .int .i64 0, .int .i64 cv, .int .i64 0, .int .i64 0]) (.agg #[.int .i64 0, .int .i64 lc', .int .i64 0, .int .i64 0, .int .i64 0, .int .i64 cv', .int .i64 0, .int .i64 0])).run Try.prog w = .ok (lc == lc' && cv == cv') w := equal39 w lc cv lc' cv'
theorem guard_agg (t : TypeId) (h : Try.prog.eqGuardType Try.prog.depth t = false) (op : BinOp) (x y : Operand) (a b : Array Value) (w : World) : (eqGuard op t x y (.agg a) (.agg b)).run Try.prog w = .ok () w := by
  cases op <;> simp [eqGuard, h]
theorem guard29 (op : BinOp) (x y : Operand) (a b : Array Value) (w : World) : (eqGuard op 29 x y (.agg a) (.agg b)).run Try.prog w = .ok () w := guard_agg 29 (by kernel_rfl) op x y a b w
theorem guard39 (op : BinOp) (x y : Operand) (a b : Array Value) (w : World) : (eqGuard op 39 x y (.agg a) (.agg b)).run Try.prog w = .ok () w := guard_agg 39 (by kernel_rfl) op x y a b w
theorem guard67 (op : BinOp) (x y : Operand) (a b : Array Value) (w : World) : (eqGuard op 67 x y (.agg a) (.agg b)).run Try.prog w = .ok () w := guard_agg 67 (by kernel_rfl) op x y a b w

/-! ### Rows of structs, cell by cell -/
theorem flat_get {α : Type} (f : α → List Value) (m : Nat) (hf : ∀ x, (f x).length = m) : ∀ (ks : List α) (i j : Nat) (q : α), ks[i]? = some q → j < m → (ks.flatMap f)[i * m + j]? = (f q)[j]?
  | [], i, j, q, h, _ => by simp at h
  | x :: xs, 0, j, q, h, hj => by
    simp at h; subst h
    rw [List.flatMap_cons, List.getElem?_append_left (by rw [hf]; omega)]; simp
  | x :: xs, i + 1, j, q, h, hj => by
    rw [List.flatMap_cons, List.getElem?_append_right (by rw [hf, Nat.succ_mul]; omega), hf]
    rw [show (i + 1) * m + j - m = i * m + j by rw [Nat.succ_mul]; omega]
    exact flat_get f m hf xs i j q (by simpa using h) hj
/-- A cell of an owned row. -/
theorem row_cell {w : World} {g : Nat} {cur : Array Value} {e : TypeId} {xs : List Value} {n : Nat} (h : w.heap[g]? = some (.cells cur e (0, 0))) (ht : cur.toList.take n = xs) {o : Nat} {v : Value} (hx : xs[o]? = some v) : w.cell? ⟨g, o, none⟩ = some v := by
  apply cell_of_block h
  rw [← ht, List.getElem?_take] at hx
  split at hx
  · rw [← Array.getElem?_toList]; exact hx
  · cases hx
end Go.Proofs.Qxb6604372a
