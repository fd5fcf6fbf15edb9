/-
  The script's state over a fixed list of accesses, round by round.
-/
import Derived.Test.Qxb6604372aDo
import Derived.Test.Qxb6604372aNew
import Derived.Test.Qxb6604372aMatch
namespace Go.Proofs.Qxb6604372a
open Go.ChangeShapes Go.WideShapes Go.ChangeAt Go.RowKit

/-- How many below k. -/
def cnt (p : Nat → Bool) : Nat → Nat
  | 0 => 0
  | k + 1 => cnt p k + if p k then 1 else 0
theorem cnt_le (p : Nat → Bool) : ∀ k, cnt p k ≤ k
  | 0 => Nat.le_refl _
  | k + 1 => by have := cnt_le p k; unfold cnt; split <;> omega
theorem cnt_congr {p q : Nat → Bool} : ∀ (k : Nat), (∀ j, j < k → p j = q j) → cnt p k = cnt q k
  | 0, _ => rfl
  | k + 1, h => by unfold cnt; rw [cnt_congr k fun j hj => h j (by omega), h k (by omega)]

/-- Does access k meet a lock; has its lender borrowed. -/
def cfA (evs : List Ev) (rel : Nat → Bool) (k : Nat) : Bool := match evs[k]? with | some e => conflict (stOf (evs.take k) rel 0 0) e | none => false
def chA (evs : List Ev) (rel : Nat → Bool) (k : Nat) : Bool := match evs[k]? with | some e => chain (stOf (evs.take k) rel 0 0) e | none => false
def r0 : Nat → Bool := fun _ => false

/-- Behind k accesses of evs. W0: the world ahead of the auditor. -/
structure Scr (W0 : World) (A : Nat) (evs : List Ev) (k : Nat) (L : Lay) (W : World) : Prop where
  st : ScrSt W0.heap.size (evs.take k) r0 (cnt (cfA evs r0) k) (cnt (chA evs r0) k) [] L W
  A : L.A = A
  below : Below W0.heap.size W0 W
theorem Scr.start {W0 W : World} {evs : List Ev} {L : Lay} (h : Inv W0.heap.size L st0 W) (hb : Below W0.heap.size W0 W) (h1 : L.coh = []) (h2 : L.pag = []) (h3 : L.run = []) : Scr W0 L.A evs 0 L W := by
  refine ⟨⟨h, ?_⟩, rfl, hb⟩
  simp [keysL, h1, h2, h3, keysOf, firsts]
theorem Scr.kept {W0 W W' : World} {A : Nat} {evs : List Ev} {k : Nat} {L : Lay} (h : Scr W0 A evs k L W) (hb : Below W.heap.size W W') : Scr W0 A evs k L W' :=
  ⟨h.st.below hb, h.A, h.below.trans (hb.mono h.below.size)⟩
theorem Scr.frame {W0 W W' : World} {A : Nat} {evs : List Ev} {k : Nat} {L : Lay} (h : Scr W0 A evs k L W) (hf : Fr L.own W W') : Below W0.heap.size W0 W' :=
  h.below.trans (hf.below (fun b t e => (h.st.inv.lt b t e).1) h.below.size)
theorem Scr.ok {W0 W : World} {A : Nat} {evs : List Ev} {k : Nat} {L : Lay} (h : Scr W0 A evs k L W) (hk : k < evs.length) (hl : evs.length ≤ 1024) (e : Ev) : AccOk (stOf (evs.take k) r0 (cnt (cfA evs r0) k) (cnt (chA evs r0) k)) L e := by
  have hlen : (evs.take k).length = k := by simp; omega
  refine accOk_stOf e (by rw [h.st.keys]; simp) (by rw [hlen]; omega) ?_ ?_
  · rw [hlen]; have := cnt_le (cfA evs r0) k; omega
  · rw [hlen]; have := cnt_le (chA evs r0) k; omega
theorem Scr.step {W0 W W' : World} {A : Nat} {evs : List Ev} {k : Nat} {L L' : Lay} (h : Scr W0 A evs k L W) {e : Ev} (he : evs[k]? = some e) {n : Nat}
    (hi : Inv W0.heap.size L' (accSt (stOf (evs.take k) r0 (cnt (cfA evs r0) k) (cnt (chA evs r0) k)) e) W') (hx : Ext n L L') (hf : Fr L.own W W') (hk : keysL L' = accKeys (keysL L) e) : Scr W0 A evs (k + 1) L' W' := by
  have hlen : (evs.take k).length = k := by have := (List.getElem?_eq_some_iff.1 he).1; simp; omega
  have htk : evs.take (k + 1) = evs.take k ++ [e] := by rw [List.take_add_one, he]; rfl
  have h2 := ScrSt.access e h.st (rel := r0) rfl hi hk
  refine ⟨?_, hx.A.trans h.A, h.frame hf⟩
  rw [htk]
  have h3 : cfA evs r0 k = conflict (stOf (evs.take k) r0 (cnt (cfA evs r0) k) (cnt (chA evs r0) k)) e := by unfold cfA; rw [he]; rfl
  have h4 : chA evs r0 k = chain (stOf (evs.take k) r0 (cnt (cfA evs r0) k) (cnt (chA evs r0) k)) e := by unfold chA; rw [he]; rfl
  have h5 : ((cnt (cfA evs r0) (k + 1) : Nat) : Int) = (cnt (cfA evs r0) k : Int) + if conflict (stOf (evs.take k) r0 (cnt (cfA evs r0) k) (cnt (chA evs r0) k)) e then 1 else 0 := by
    rw [← h3, cnt]; cases cfA evs r0 k <;> simp
  have h6 : ((cnt (chA evs r0) (k + 1) : Nat) : Int) = (cnt (chA evs r0) k : Int) + if chain (stOf (evs.take k) r0 (cnt (cfA evs r0) k) (cnt (chA evs r0) k)) e then 1 else 0 := by
    rw [← h4, cnt]; cases chA evs r0 k <;> simp
  rw [h5, h6]
  exact h2
theorem doAccess_scr {W0 W : World} {A : Nat} {evs : List Ev} {k : Nat} {L : Lay} {e : Ev} (h : Scr W0 A evs k L W) (he : evs[k]? = some e) (hl : evs.length ≤ 1024) :
    Calls Try.prog 22 #[pv A, .agg #[.int .i64 e.txn, .int .i64 e.n, .int .i64 e.site, .int .i64 e.page, .bool e.upd, .bool e.bor, .int .i64 e.lt, .int .i64 e.ln]] W fun r w' => r = .returned (.tuple #[]) ∧ ∃ L', Scr W0 A evs (k + 1) L' w' := by
  have hk := (List.getElem?_eq_some_iff.1 he).1
  have := doAccess_any e W h.st.inv (h.ok hk hl e)
  rw [h.A] at this
  refine this.mono ?_
  rintro r w' ⟨rfl, L', h1, h2, h3, h4⟩
  exact ⟨rfl, L', h.step he h1 h2 h3 h4⟩
/-- Behind them all. -/
theorem Scr.all {W0 W : World} {A : Nat} {evs : List Ev} {k : Nat} {L : Lay} (h : Scr W0 A evs k L W) (hk : evs.length ≤ k) : ScrSt W0.heap.size evs r0 (cnt (cfA evs r0) k) (cnt (chA evs r0) k) [] L W := by
  have := h.st; rwa [List.take_of_length_le hk] at this

/-- What a copy of accesses has given. -/
theorem evRow_of_owns {w : World} {base : Nat} {v : Value} {len : Nat} {evs : List Ev} (h : w.ownsRow base 46 8 v len (evs.flatMap evCells)) (hl : evs.length = len) : ∃ a c, v = .slice a len c ∧ (0 < evs.length → ∃ g, a = some ⟨g, 0, none⟩ ∧ EvRow w g evs) := by
  rcases h.2 with ⟨rfl, h0⟩ | ⟨g, c, cur, rfl, hg, hh, _, _, hs, ht⟩
  · subst h0
    exact ⟨none, 0, rfl, fun h => by omega⟩
  · refine ⟨some ⟨g, 0, none⟩, c, rfl, fun _ => ⟨g, rfl, fun i e hi j x hx => ?_⟩⟩
    have hj : j < 8 := by have := (List.getElem?_eq_some_iff.1 hx).1; simpa [evCells] using this
    refine row_cell hh ht ?_
    rw [flat_get evCells 8 (fun _ => rfl) evs i j _ hi hj]
    exact hx
end Go.Proofs.Qxb6604372a
