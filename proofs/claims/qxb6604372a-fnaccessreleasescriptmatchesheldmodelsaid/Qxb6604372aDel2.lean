/-
  slices.DeleteFunc where it finds its number.
-/
import Derived.Test.Qxb6604372aDel
namespace Go.Proofs.Qxb6604372a
open Go.ChangeShapes Go.WideShapes Go.ChangeAt Go.RowKit

/-- Behind t steps. -/
structure DelSt (w : World) (g : Nat) (us bs : List Int) (i : Int) (rest : List Value) (t : Nat) (W : World) : Prop where
  grown : w.grownBy W (some g)
  row : W.heap[g]? = some (.cells (ints (shf us bs i t) ++ rest).toArray 3 (0, 0))
theorem grownBy_setCell {w W : World} {g o : Nat} {v : Value} (h : w.grownBy W (some g)) : w.grownBy (W.setCell ⟨g, o, none⟩ v) (some g) :=
  ⟨h.os, h.tape, h.output, by simpa using h.size, fun k hk hne => by rw [Below.heap_setCell _ _ _ _ (fun e => hne (by rw [e]))]; exact h.block k hk hne⟩
theorem row_set {W : World} {g o : Nat} {l : List Value} {t : TypeId} {v : Value} (h : W.heap[g]? = some (.cells l.toArray t (0, 0))) : (W.setCell ⟨g, o, none⟩ v).heap[g]? = some (.cells (l.set o v).toArray t (0, 0)) := by
  rw [heap_setCell_same h]
  simp
theorem DelSt.store {w W : World} {g : Nat} {us bs : List Int} {i : Int} {rest : List Value} {t : Nat} (h : DelSt w g us bs i rest t W) {b : Int} (hb : bs[t]? = some b) : DelSt w g us bs i rest (t + 1) (W.setCell ⟨g, us.length + t, none⟩ (.int .i64 b)) where
  grown := grownBy_setCell h.grown
  row := by
    have ht := (List.getElem?_eq_some_iff.1 hb).1
    rw [row_set h.row, List.set_append_left _ _ (by simp only [ints, List.length_map]; rw [shf_length _ _ _ (by omega)]; omega), ← shf_set hb]
    simp only [ints, List.map_set]
theorem DelSt.cell {w W : World} {g : Nat} {us bs : List Int} {i : Int} {rest : List Value} {t : Nat} (h : DelSt w g us bs i rest t W) {k : Nat} {x : Int} (hx : (shf us bs i t)[k]? = some x) : W.cell? ⟨g, k, none⟩ = some (.int .i64 x) := by
  refine cell_of_block h.row ?_
  have hk := (List.getElem?_eq_some_iff.1 hx).1
  rw [List.getElem?_toArray, List.getElem?_append_left (by simpa [ints] using hk)]
  simp [ints, hx]
theorem DelSt.fin {w W : World} {g : Nat} {us bs : List Int} {i : Int} {rest : List Value} (h : DelSt w g us bs i rest bs.length W) : (W.setCell ⟨g, us.length + bs.length, none⟩ (.int .i64 0)).heap[g]? = some (.cells (ints (us ++ bs) ++ (.int .i64 0 :: rest)).toArray 3 (0, 0)) := by
  obtain ⟨z, hz⟩ := shf_end us bs i
  have h1 := h.row
  rw [hz] at h1
  rw [row_set h1]
  congr 3
  simp only [ints, List.map_append, List.append_assoc, List.map_cons, List.map_nil]
  rw [List.set_append_right _ _ (by simp), List.length_map, Nat.add_sub_cancel_left, List.set_append_right _ _ (by simp), List.length_map, Nat.sub_self]
  rfl
set_option maxRecDepth 100000 in
set_option maxHeartbeats 1000000 in
theorem delete_found (g cap B0 : Nat) (us bs : List Int) (i : Int) (rest : List Value) (w : World) (hg : w.heap[g]? = some (.cells (ints (us ++ i :: bs) ++ rest).toArray 3 (0, 0))) (hcap : us.length + bs.length + 1 ≤ cap) (hB : w.cell? ⟨B0, 0, none⟩ = some (.int .i64 i)) (hne : B0 ≠ g)
    (ha : i ∉ us) (hb : i ∉ bs) (hl : us.length + bs.length + 1 ≤ 1024) :
    Calls Try.prog 47 #[.slice (some ⟨g, 0, none⟩) (us.length + bs.length + 1) cap, .func (.func 48) #[] #[pv B0]] w fun e w' => e = .returned (.slice (some ⟨g, 0, none⟩) (us.length + bs.length) cap) ∧ w.grownBy w' (some g) ∧ w'.heap[g]? = some (.cells (ints (us ++ bs) ++ (.int .i64 0 :: rest)).toArray 3 (0, 0)) := by
  have hsl : IntSl w (some ⟨g, 0, none⟩) (us ++ i :: bs) := by
    intro k x hx
    refine ⟨g, rfl, cell_of_block hg ?_⟩
    have hk := (List.getElem?_eq_some_iff.1 hx).1
    rw [List.getElem?_toArray, List.getElem?_append_left (by simpa [ints] using hk)]
    simp only [ints, List.getElem?_map, hx]
    rfl
  have HC : Hid (Calls Try.prog 54 #[.slice (some ⟨g, 0, none⟩) (us.length + bs.length + 1) cap, .func (.func 48) #[] #[pv B0]] w fun e w' => e = .returned (.int .i64 us.length) ∧ Below w.heap.size w w') := by
    have := indexDel_any (some ⟨g, 0, none⟩) cap (us ++ i :: bs) B0 (fun x => x == i) w hsl (by simp; omega) fun k x W _ hb => by
      refine (relClosure x i B0 W (by rw [hb.cell (lt_of_cell hB)]; exact hB)).mono ?_
      rintro e w' ⟨rfl, rfl⟩
      exact ⟨rfl, hb⟩
    rw [show (us ++ i :: bs).length = us.length + bs.length + 1 by simp; omega] at this
    refine this.mono ?_
    rintro e w' ⟨r, rfl, hf, hb'⟩
    rw [find_at ha hb hf]
    exact ⟨rfl, hb'⟩
  have HG : Hid (w.heap[g]? = some (.cells (ints (us ++ i :: bs) ++ rest).toArray 3 (0, 0))) := hg
  have HBB : Hid (w.cell? ⟨B0, 0, none⟩ = some (.int .i64 i)) := hB
  have HNB : Hid (∀ (k : Nat) b, bs[k]? = some b → (b == i) = false) := by
    intro k b hk
    rw [beq_eq_false_iff_ne]
    rintro rfl
    exact hb (List.mem_of_getElem? hk)
  clear hsl hg hB ha hb
  obtain ⟨p, hp⟩ : ∃ p, us.length = p := ⟨_, rfl⟩
  obtain ⟨q, hq⟩ : ∃ q, bs.length = q := ⟨_, rfl⟩
  rw [hp, hq] at HC hl hcap ⊢
  have HP : Hid (us.length = p) := hp
  have HQ : Hid (bs.length = q) := hq
  clear hp hq
  go_enter Try.func47, Try.ntmps47
  go_wp2_with fail
  refine Calls.mono HC.out ?_
  rintro e w1 ⟨rfl, hb1⟩
  have HS : Hid (DelSt w g us bs i rest 0 w1) := by
    refine ⟨⟨hb1.os, hb1.tape, hb1.output, hb1.size, fun k hk _ => hb1.block k hk⟩, ?_⟩
    rw [hb1.block _ (Array.getElem?_eq_some_iff.1 HG.out).1, shf_zero]; exact HG.out
  clear hb1 HC
  have hpn : ((p : Int) == -1) = false := beq_eq_false_iff_ne.2 (by omega)
  go_wp2
  go_loopw [5, 6] (fun a j W => ∃ t : Nat, t ≤ q ∧ a = .int .i64 ((p + t : Nat) : Int) ∧ j = .int .i64 ((p + t + 1 : Nat) : Int) ∧ Hid (DelSt w g us bs i rest t W)) (fun _ j _ => p + q + 1 - (intOf j).toNat)
  case atStart => exact ⟨0, Nat.zero_le _, rfl, by go_num, HS⟩
  case round =>
    clear HS
    obtain ⟨t, ht, rfl, rfl, HS⟩ := hrel
    by_cases hlt : t < q
    · obtain ⟨b, hb⟩ : ∃ b, bs[t]? = some b := ⟨bs[t]'(by rw [HQ.out]; exact hlt), by simp⟩
      have hnext := shf_next (us := us) (i := i) hb
      rw [HP.out] at hnext
      have hc := HS.out.cell hnext
      have hlg := lt_of_cell hc
      have hB1 : wr.cell? ⟨B0, 0, none⟩ = some (.int .i64 i) := by
        have h1 := HS.out.grown.block B0 (lt_of_cell HBB.out) (fun e => hne (by cases e; rfl))
        rw [World.cell?_of_block (w := w) (a := ⟨B0, 0, none⟩) h1]; exact HBB.out
      obtain ⟨v0, hc0⟩ := cell_some_of_block HS.out.row (o := p + t) (by simp [ints]; rw [shf_length _ _ _ (by rw [HQ.out]; omega), HP.out, HQ.out]; omega)
      have hf := frozen_of_block HS.out.row
      have HBT : Hid (bs[t]? = some b) := hb
      clear hnext hb
      go_wp2_with fail
      refine (relClosure b i B0 _ hB1).mono ?_
      rintro r w2 ⟨rfl, rfl⟩
      rw [HNB.out t b HBT.out]
      go_wp2
      go_roundw
      case rel => exact ⟨t + 1, hlt, by go_num, by go_num, by have := HS.out.store HBT.out; rw [HP.out] at this; exact this⟩
      case measure => simp [intOf]; omega
    · have htq : t = q := by omega
      subst htq
      have hs1 := sl33_from g (p + t + 1) cap (p + t) (by omega) hcap
      have hs2 := sl33_to g (p + t + 1) cap (p + t) (by omega)
      have hone : p + t + 1 - (p + t) = 1 := by omega
      rw [hone] at hs1
      have HR := HS.out.row
      obtain ⟨v0, hc0⟩ := cell_some_of_block HR (o := p + t) (by simp [ints]; rw [shf_length _ _ _ (by rw [HQ.out]; omega), HP.out, HQ.out]; omega)
      have hf := frozen_of_block HR
      have hcl : ∀ ty, (Builtin.clear_ #[33] ty #[.slice (some ⟨g, p + t, none⟩) 1 (cap - (p + t))]).run Try.prog wr = .ok (.tuple #[]) (wr.setCell ⟨g, p + t, none⟩ (.int .i64 0)) := fun ty =>
        Lib.run_clear_slice (P := Try.prog) wr 33 3 ty (.int .i64 0) Try.underlying33 info3z rfl rfl g (p + t) 1 (cap - (p + t)) (by omega) (fun j hj => by obtain rfl : j = 0 := by omega
                                                                                                                                                            rw [Nat.add_zero, hc0]; rfl) (fun j _ => hf _)
      clear HR
      go_wp2
      go_ret
      refine ⟨rfl, grownBy_setCell HS.out.grown, ?_⟩
      have := HS.out
      rw [← HQ.out] at this
      have h2 := this.fin
      rw [HP.out, HQ.out] at h2
      exact h2
end Go.Proofs.Qxb6604372a
