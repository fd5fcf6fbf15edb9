/-
  ZZaccess, doAccess over scripts.
-/
import Derived.Test.Qxb6604372aAccess
import Derived.Test.Qxb6604372aState
namespace Go.Proofs.Qxb6604372a
open Go.ChangeShapes Go.WideShapes Go.ChangeAt Go.RowKit

section
variable {base : Nat} {L : Lay} {s : St}
set_option maxHeartbeats 1000000 in
theorem zaccess_any (e : Ev) (w : World) (h : Inv base L s w) (hok : AccOk s L e) :
    Calls Try.prog 29 #[pv L.A, .int .i64 e.txn, .int .i64 e.n, .int .i64 e.site, .int .i64 e.page, .bool e.upd, .bool e.bor, .int .i64 e.lt, .int .i64 e.ln] w fun r w' => r = .returned (.tuple #[]) ∧ ∃ L', Inv base L' (accSt s e) w' ∧ Ext w.heap.size L L' ∧ Fr L.own w w' ∧ keysL L' = accKeys (keysL L) e := by
  have hb : Below w.heap.size w (w.alloc (.cells (eventCells e) 82)) := (Below.refl _ _).alloc (Nat.le_refl _) _
  have hc := access_any e w.heap.size (w.alloc (.cells (eventCells e) 82)) (h.below hb) hok (heap_at _ _ rfl) (h.fresh (Nat.le_refl _))
  have HC : Hid _ := hc
  have HF : Hid _ := (Fr.of_below (own := L.own) hb)
  clear hc hb h hok
  generalize L.A = A at *
  go_enter Try.func29, Try.ntmps29
  go_wp2_with fail
  refine Calls.mono HC.out ?_
  rintro r w' ⟨rfl, L', h1, h2, h3, h4⟩
  have H1 : Hid (Inv base L' (accSt s e) w' ∧ Ext w.heap.size L L' ∧ Fr L.own w w' ∧ keysL L' = accKeys (keysL L) e) := ⟨h1, ⟨fun b hb => h2.own b (by simp; omega), h2.A, h2.coh, h2.pag, h2.run⟩, HF.out.trans' h3, h4⟩
  clear h1 h2 h3 h4
  go_wp2
  go_end0
  exact ⟨rfl, L', H1.out⟩
theorem doAccess_any (e : Ev) (w : World) (h : Inv base L s w) (hok : AccOk s L e) :
    Calls Try.prog 22 #[pv L.A, .agg #[.int .i64 e.txn, .int .i64 e.n, .int .i64 e.site, .int .i64 e.page, .bool e.upd, .bool e.bor, .int .i64 e.lt, .int .i64 e.ln]] w fun r w' => r = .returned (.tuple #[]) ∧ ∃ L', Inv base L' (accSt s e) w' ∧ Ext w.heap.size L L' ∧ Fr L.own w w' ∧ keysL L' = accKeys (keysL L) e := by
  have hb : Below w.heap.size w (w.alloc (.cells #[.int .i64 e.txn, .int .i64 e.n, .int .i64 e.site, .int .i64 e.page, .bool e.upd, .bool e.bor, .int .i64 e.lt, .int .i64 e.ln] 46)) := (Below.refl _ _).alloc (Nat.le_refl _) _
  have hc := zaccess_any e _ (h.below hb) hok
  have HC : Hid _ := hc
  have HF : Hid _ := (Fr.of_below (own := L.own) hb)
  clear hc hb h hok
  generalize L.A = A at *
  go_enter Try.func22, Try.ntmps22
  go_wp2_with fail
  refine Calls.mono HC.out ?_
  rintro r w' ⟨rfl, L', h1, h2, h3, h4⟩
  have H1 : Hid (Inv base L' (accSt s e) w' ∧ Ext w.heap.size L L' ∧ Fr L.own w w' ∧ keysL L' = accKeys (keysL L) e) := ⟨h1, ⟨fun b hb => h2.own b (by simp; omega), h2.A, h2.coh, h2.pag, h2.run⟩, HF.out.trans' h3, h4⟩
  clear h1 h2 h3 h4
  go_wp2
  go_end0
  exact ⟨rfl, L', H1.out⟩
end
/-- One access more of a script. -/
theorem ScrSt.access {base : Nat} {evs : List Ev} {rel : Nat → Bool} {lc cv : Int} {L : Lay} {w : World} (e : Ev) (h : ScrSt base evs rel lc cv [] L w) (hr : rel evs.length = false) {w' : World} {L' : Lay}
    (hi : Inv base L' (accSt (stOf evs rel lc cv) e) w') (hk : keysL L' = accKeys (keysL L) e) :
    ScrSt base (evs ++ [e]) rel (lc + if conflict (stOf evs rel lc cv) e then 1 else 0) (cv + if chain (stOf evs rel lc cv) e then 1 else 0) [] L' w' := by
  refine ⟨by rw [← accSt_stOf evs rel lc cv e hr]; exact hi, ?_⟩
  have h2 := h.keys
  simp only [List.append_nil] at h2 ⊢
  rw [hk, h2]
  exact accKeys_keysOf evs e

end Go.Proofs.Qxb6604372a
