/-
  WHAT THE AUDITOR's MEMORY HOLDS: 'Inv'. Each block that the auditor owns bears a TAG (a ghost), so that blocks of two roles are never one.
-/
import Derived.Test.Qxb6604372aMaps
namespace Go.Proofs.Qxb6604372a
open Go.ChangeShapes Go.WideShapes Go.ChangeAt Go.RowKit

abbrev K2 := Int × Int
abbrev K3 := Int × Int × Int
abbrev Tag := Nat × Int × Int × Int
abbrev ints (xs : List Int) : List Value := xs.map (Value.int .i64)

/-- One access as the auditor keeps it (never undone here). -/
structure Acc where
  txn : Int
  n : Int
  site : Int
  page : Int
  upd : Bool
def accCells (a : Acc) : List Value := [.int .i64 a.txn, .int .i64 a.n, .int .i64 a.site, .int .i64 a.page, .bool a.upd, .bool false]
/-- One borrowing: the access's number and the lender. -/
def borCells (b : Int × K2) : List Value := [.int .i64 b.1, .int .i64 b.2.1, .int .i64 b.2.2]

/-- Where things lie. -/
structure Lay where
  own : Nat → Option Tag
  A : Nat
  D : Nat
  R : Nat
  C : Nat
  P : Nat
  coh : List (K3 × Nat)
  pag : List (K2 × Nat)
  run : List (K2 × Nat)

/-- What they hold. -/
structure St where
  lc : Int
  cv : Int
  accs : List Acc
  cohA : K3 → List Int
  pagA : K2 → List Int
  pagH : K2 → List Int
  runB : K2 → List (Int × K2)

def Row (base : Nat) (own : Nat → Option Tag) (w : World) (tag : Tag) (e : TypeId) (size : Nat) (v : Value) (n : Nat) (xs : List Value) : Prop :=
  w.ownsRow base e size v n xs ∧ ∀ g, v.ownBlock = some g → own g = some tag
def CohAt (base : Nat) (own : Nat → Option Tag) (w : World) (b : Nat) (k : K3) (xs : List Int) : Prop :=
  own b = some (5, k) ∧ ∃ sv, w.heap[b]? = some (.cells #[sv, .bool false] 69) ∧ Row base own w (6, k) 3 1 sv xs.length (ints xs)
def PagAt (base : Nat) (own : Nat → Option Tag) (w : World) (b : Nat) (k : K2) (xs ys : List Int) : Prop :=
  own b = some (7, k.1, k.2, 0) ∧ ∃ sa sh, w.heap[b]? = some (.cells #[sa, sh] 99) ∧ Row base own w (8, k.1, k.2, 0) 3 1 sa xs.length (ints xs) ∧ Row base own w (9, k.1, k.2, 0) 3 1 sh ys.length (ints ys)
def RunAt (base : Nat) (own : Nat → Option Tag) (w : World) (b : Nat) (k : K2) (xs : List (Int × K2)) : Prop :=
  own b = some (10, k.1, k.2, 0) ∧ ∃ sv, w.heap[b]? = some (.cells #[.string ⟨#[]⟩, .bool false, sv, .bool false, .bool false] 108) ∧ Row base own w (11, k.1, k.2, 0) 110 3 sv xs.length (xs.flatMap borCells)
def audCells (L : Lay) (s : St) (sv : Value) : Array Value :=
  #[.int .i64 0, .int .i64 s.lc, .int .i64 0, .int .i64 0, .int .i64 0, .int .i64 s.cv, .int .i64 0, .int .i64 0, .map (some L.D), .map (some L.R), .map (some L.C), .map (some L.P), sv]

structure Inv (base : Nat) (L : Lay) (s : St) (w : World) : Prop where
  lt : ∀ b t, L.own b = some t → base ≤ b ∧ b < w.heap.size
  tA : L.own L.A = some (0, 0, 0, 0)
  tR : L.own L.R = some (1, 0, 0, 0)
  tC : L.own L.C = some (2, 0, 0, 0)
  tP : L.own L.P = some (3, 0, 0, 0)
  aud : ∃ sv, w.heap[L.A]? = some (.cells (audCells L s sv) 64) ∧ Row base L.own w (4, 0, 0, 0) 86 6 sv s.accs.length (s.accs.flatMap accCells)
  R : MapIs k2 w L.R L.run
  C : MapIs k3 w L.C L.coh
  P : MapIs k2 w L.P L.pag
  coh : ∀ k b, L.coh.lookup k = some b → CohAt base L.own w b k (s.cohA k)
  pag : ∀ k b, L.pag.lookup k = some b → PagAt base L.own w b k (s.pagA k) (s.pagH k)
  run : ∀ k b, L.run.lookup k = some b → RunAt base L.own w b k (s.runB k)
  coh0 : ∀ k, L.coh.lookup k = none → s.cohA k = []
  pag0 : ∀ k, L.pag.lookup k = none → s.pagA k = [] ∧ s.pagH k = []
  run0 : ∀ k, L.run.lookup k = none → s.runB k = []

/-! ### Frames -/
/-- w' is w but for the blocks that 'own' names, and new blocks. -/
structure Fr (own : Nat → Option Tag) (w w' : World) : Prop where
  os : w'.os = w.os
  tape : w'.tape = w.tape
  output : w'.output = w.output
  size : w.heap.size ≤ w'.heap.size
  block : ∀ b, b < w.heap.size → own b = none → w'.heap[b]? = w.heap[b]?
theorem Fr.refl (own : Nat → Option Tag) (w : World) : Fr own w w := ⟨rfl, rfl, rfl, Nat.le_refl _, fun _ _ _ => rfl⟩
theorem Fr.trans {own own' : Nat → Option Tag} {a b c : World} (h : Fr own a b) (k : Fr own' b c) (he : ∀ i, i < a.heap.size → own' i = own i) : Fr own a c :=
  ⟨k.os.trans h.os, k.tape.trans h.tape, k.output.trans h.output, Nat.le_trans h.size k.size,
   fun i hi ho => (k.block i (Nat.lt_of_lt_of_le hi h.size) ((he i hi).trans ho)).trans (h.block i hi ho)⟩
theorem Fr.trans' {own : Nat → Option Tag} {a b c : World} (h : Fr own a b) (k : Fr own b c) : Fr own a c := h.trans k fun _ _ => rfl
theorem Fr.of_below {own : Nat → Option Tag} {w w' : World} (h : Below w.heap.size w w') : Fr own w w' := ⟨h.os, h.tape, h.output, h.size, fun b hb _ => h.block b hb⟩
theorem Fr.below {own : Nat → Option Tag} {w w' : World} {base : Nat} (h : Fr own w w') (hl : ∀ b t, own b = some t → base ≤ b) (hs : base ≤ w.heap.size) : Below base w w' :=
  ⟨h.os, h.tape, h.output, h.size, fun k hk => h.block k (by omega) (by
    cases ho : own k with
    | none => rfl
    | some t => have := hl k t ho; omega)⟩

/-- L' is L with more: below n the tags are the same. -/
structure Ext (n : Nat) (L L' : Lay) : Prop where
  own : ∀ b, b < n → L'.own b = L.own b
  A : L'.A = L.A
  coh : ∀ k b, L.coh.lookup k = some b → L'.coh.lookup k = some b
  pag : ∀ k b, L.pag.lookup k = some b → L'.pag.lookup k = some b
  run : ∀ k b, L.run.lookup k = some b → L'.run.lookup k = some b
theorem Ext.refl (n : Nat) (L : Lay) : Ext n L L := ⟨fun _ _ => rfl, rfl, fun _ _ h => h, fun _ _ h => h, fun _ _ h => h⟩
theorem Ext.trans {n m : Nat} {L L' L'' : Lay} (h : Ext n L L') (k : Ext m L' L'') (hnm : n ≤ m) : Ext n L L'' :=
  ⟨fun b hb => (k.own b (by omega)).trans (h.own b hb), k.A.trans h.A, fun _ _ e => k.coh _ _ (h.coh _ _ e), fun _ _ e => k.pag _ _ (h.pag _ _ e), fun _ _ e => k.run _ _ (h.run _ _ e)⟩

/-! ### What is kept -/
def OwnLe (own own' : Nat → Option Tag) : Prop := ∀ b t, own b = some t → own' b = some t
theorem OwnLe.refl (own : Nat → Option Tag) : OwnLe own own := fun _ _ h => h

theorem ownsRow_of_block {w w' : World} {base : Nat} {e : TypeId} {size : Nat} {v : Value} {n : Nat} {xs : List Value} (h : w.ownsRow base e size v n xs) (hb : ∀ g, v.ownBlock = some g → w'.heap[g]? = w.heap[g]?) : w'.ownsRow base e size v n xs := by
  obtain ⟨h1, h2⟩ := h
  refine ⟨h1, ?_⟩
  rcases h2 with h2 | ⟨g, cap, cur, hv, hg, hh, r⟩
  · exact Or.inl h2
  · exact Or.inr ⟨g, cap, cur, hv, hg, by rw [hb g (by simp [hv, Value.ownBlock])]; exact hh, r⟩

theorem Row.kept {base : Nat} {own own' : Nat → Option Tag} {w w' : World} {tag : Tag} {e : TypeId} {size : Nat} {v : Value} {n : Nat} {xs : List Value}
    (h : Row base own w tag e size v n xs) (hle : OwnLe own own') (hb : ∀ g, own g = some tag → w'.heap[g]? = w.heap[g]?) : Row base own' w' tag e size v n xs :=
  ⟨ownsRow_of_block h.1 fun g hg => hb g (h.2 g hg), fun g hg => hle _ _ (h.2 g hg)⟩
theorem CohAt.kept {base : Nat} {own own' : Nat → Option Tag} {w w' : World} {b : Nat} {k : K3} {xs : List Int} (h : CohAt base own w b k xs) (hle : OwnLe own own')
    (hb : ∀ g t, own g = some t → (t = (5, k) ∨ t = (6, k)) → w'.heap[g]? = w.heap[g]?) : CohAt base own' w' b k xs := by
  obtain ⟨h1, sv, h2, h3⟩ := h
  exact ⟨hle _ _ h1, sv, (hb _ _ h1 (.inl rfl)).trans h2, h3.kept hle fun g hg => hb g _ hg (.inr rfl)⟩
theorem PagAt.kept {base : Nat} {own own' : Nat → Option Tag} {w w' : World} {b : Nat} {k : K2} {xs ys : List Int} (h : PagAt base own w b k xs ys) (hle : OwnLe own own')
    (hb : ∀ g t, own g = some t → (t = (7, k.1, k.2, 0) ∨ t = (8, k.1, k.2, 0) ∨ t = (9, k.1, k.2, 0)) → w'.heap[g]? = w.heap[g]?) : PagAt base own' w' b k xs ys := by
  obtain ⟨h1, sa, sh, h2, h3, h4⟩ := h
  exact ⟨hle _ _ h1, sa, sh, (hb _ _ h1 (.inl rfl)).trans h2, h3.kept hle fun g hg => hb g _ hg (.inr (.inl rfl)), h4.kept hle fun g hg => hb g _ hg (.inr (.inr rfl))⟩
theorem RunAt.kept {base : Nat} {own own' : Nat → Option Tag} {w w' : World} {b : Nat} {k : K2} {xs : List (Int × K2)} (h : RunAt base own w b k xs) (hle : OwnLe own own')
    (hb : ∀ g t, own g = some t → (t = (10, k.1, k.2, 0) ∨ t = (11, k.1, k.2, 0)) → w'.heap[g]? = w.heap[g]?) : RunAt base own' w' b k xs := by
  obtain ⟨h1, sv, h2, h3⟩ := h
  exact ⟨hle _ _ h1, sv, (hb _ _ h1 (.inl rfl)).trans h2, h3.kept hle fun g hg => hb g _ hg (.inr rfl)⟩

/-- All owned blocks are as they were: so is what they hold. -/
theorem Inv.kept {base : Nat} {L : Lay} {s : St} {w w' : World} (h : Inv base L s w) (hs : w.heap.size ≤ w'.heap.size) (hb : ∀ b t, L.own b = some t → w'.heap[b]? = w.heap[b]?) : Inv base L s w' where
  lt b t ho := ⟨(h.lt b t ho).1, Nat.lt_of_lt_of_le (h.lt b t ho).2 hs⟩
  tA := h.tA
  tR := h.tR
  tC := h.tC
  tP := h.tP
  aud := by obtain ⟨sv, h1, h2⟩ := h.aud; exact ⟨sv, (hb _ _ h.tA).trans h1, h2.kept (OwnLe.refl _) fun g hg => hb g _ hg⟩
  R := h.R.of_block (hb _ _ h.tR)
  C := h.C.of_block (hb _ _ h.tC)
  P := h.P.of_block (hb _ _ h.tP)
  coh k b e := (h.coh k b e).kept (OwnLe.refl _) fun g t ht _ => hb g t ht
  pag k b e := (h.pag k b e).kept (OwnLe.refl _) fun g t ht _ => hb g t ht
  run k b e := (h.run k b e).kept (OwnLe.refl _) fun g t ht _ => hb g t ht
  coh0 := h.coh0
  pag0 := h.pag0
  run0 := h.run0
theorem Inv.below {base : Nat} {L : Lay} {s : St} {w w' : World} (h : Inv base L s w) (hb : Below w.heap.size w w') : Inv base L s w' :=
  h.kept hb.size fun b t ho => hb.block b (h.lt b t ho).2
end Go.Proofs.Qxb6604372a
