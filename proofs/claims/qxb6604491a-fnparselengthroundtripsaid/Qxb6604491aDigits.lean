/-
  plDigits.
-/
import Derived.Test.Qxb6604491aParse
import Derived.Laws.CopyOwn
import Derived.OwnWalk
import Derived.WalkLawsBesides
import Derived.WalkSpells
namespace Go.Proofs.Qxb6604491a
open Go.ChangeShapes Go.WideShapes Go.ChangeAt Go.RowKit

def digs (n : Nat) : List Int := if h : n < 10 then [48 + (n : Int)] else digs (n / 10) ++ [48 + ((n % 10 : Nat) : Int)]
termination_by n
decreasing_by omega
theorem digs_small {n : Nat} (h : n < 10) : digs n = [48 + (n : Int)] := by rw [digs, dif_pos h]
theorem digs_big {n : Nat} (h : ¬ n < 10) : digs n = digs (n / 10) ++ [48 + ((n % 10 : Nat) : Int)] := by rw [digs, dif_neg h]
/-- No digit for 0. -/
def digs0 (n : Nat) : List Int := if n = 0 then [] else digs n
theorem digs0_step {n : Nat} (h : 0 < n) : digs0 n = digs0 (n / 10) ++ [48 + ((n % 10 : Nat) : Int)] := by
  unfold digs0
  rw [if_neg (by omega)]
  by_cases hs : n < 10
  · rw [digs_small hs, if_pos (by omega), show n % 10 = n by omega]; rfl
  · rw [digs_big hs, if_neg (by omega)]
theorem digs_pos : ∀ n, 0 < (digs n).length := by
  intro n
  by_cases hs : n < 10
  · rw [digs_small hs]; simp
  · rw [digs_big hs]; simp
theorem digs_all : ∀ n, ∀ c ∈ digs n, 48 ≤ c ∧ c ≤ 57 := by
  intro n
  induction n using Nat.strongRecOn with
  | ind n ih =>
    intro c hc
    by_cases hs : n < 10
    · rw [digs_small hs] at hc; simp at hc; omega
    · rw [digs_big hs] at hc
      rcases List.mem_append.1 hc with h | h
      · exact ih (n / 10) (by omega) c h
      · simp at h; omega
theorem digs_split (n : Nat) : ∃ ds c, digs n = ds ++ [c] ∧ (48 ≤ c ∧ c ≤ 57) := by
  have hd := digs_all n
  by_cases hs : n < 10
  · rw [digs_small hs] at hd ⊢; exact ⟨[], _, rfl, hd _ (by simp)⟩
  · rw [digs_big hs] at hd ⊢; exact ⟨_, _, rfl, hd _ (by simp)⟩
/-- The loop on parts. -/
theorem plLoop_append (lim : Int) : ∀ (xs ys : List Int) (a : Int), plLoop lim a (xs ++ ys) = if (plLoop lim a xs).2 then plLoop lim (plLoop lim a xs).1 ys else (0, false)
  | [], ys, a => by simp [plLoop]
  | c :: xs, ys, a => by
    simp only [List.cons_append, plLoop]
    split
    · rfl
    · split
      · rfl
      · exact plLoop_append lim xs ys _
theorem plLoop_digs (lim : Int) : ∀ n : Nat, plLoop lim 0 (digs n) = if (n : Int) ≤ lim then ((n : Int), true) else (0, false) := by
  intro n
  induction n using Nat.strongRecOn with
  | ind n ih =>
    by_cases hs : n < 10
    · rw [digs_small hs]
      simp only [plLoop]
      rw [if_neg (by omega)]
      by_cases hl : (n : Int) ≤ lim
      · rw [if_neg (by omega), if_pos hl]; congr 1; omega
      · rw [if_pos (by omega), if_neg hl]
    · rw [digs_big hs, plLoop_append, ih (n / 10) (by omega)]
      by_cases hq : ((n / 10 : Nat) : Int) ≤ lim
      · rw [if_pos hq]
        simp only [if_true, plLoop]
        rw [if_neg (by omega)]
        by_cases hl : (n : Int) ≤ lim
        · rw [if_neg (by omega), if_pos hl]; congr 1; omega
        · rw [if_pos (by omega), if_neg hl]
      · rw [if_neg hq]
        by_cases hl : (n : Int) ≤ lim
        · exfalso; omega
        · rw [if_neg hl]; rfl
theorem plLoop_zeros (lim : Int) (h : 0 ≤ lim) (ds : List Int) : plLoop lim 0 ([48, 48] ++ ds) = plLoop lim 0 ds := by
  rw [plLoop_append]
  have : plLoop lim 0 [48, 48] = (0, true) := by
    simp only [plLoop]
    rw [if_neg (by omega), if_neg (by omega), if_neg (by omega), if_neg (by omega)]; rfl
  rw [this]; rfl
theorem digs_len : ∀ k n : Nat, n < 10 ^ k → (digs n).length ≤ max k 1
  | 0, n, h => by rw [digs_small (by simp at h; omega)]; simp
  | k + 1, n, h => by
    by_cases hs : n < 10
    · rw [digs_small hs]; simp
    · rw [digs_big hs]
      have := digs_len k (n / 10) (by rw [Nat.pow_succ] at h; omega)
      have hk : 0 < k := by
        rcases Nat.eq_zero_or_pos k with e | e
        · subst e; simp at h; omega
        · exact e
      simp; omega

set_option maxRecDepth 100000 in
theorem digits_zero (w : World) : Calls Try.prog 8 #[.int .i64 0] w fun e w' => ∃ g, e = .returned (.slice (some ⟨g, 0, none⟩) (digs 0).length (digs 0).length) ∧ BytesAt w' g 0 (digs 0) ∧ Below w.heap.size w w' := by
  have hd : digs 0 = [48] := digs_small (by omega)
  rw [hd]
  go_enter Try.func8, Try.ntmps8
  go_wp2
  go_ret
  refine ⟨w.heap.size, rfl, ?_, (Below.refl _ _).alloc (Nat.le_refl _) _⟩
  intro i hi
  obtain rfl : i = 0 := by simp at hi; omega
  exact cell_of_block (heap_new w _) rfl
theorem info5 : (Try.prog.info? 5).map (fun i => (i.zero, i.size, i.bytes)) = some (some (.int .u8 0), 1, 1) := by kernel_rfl
theorem add_none (b o j : Nat) : (⟨b, o, none⟩ : Addr).add j = ⟨b, o + j, none⟩ := by unfold Addr.add; split <;> simp_all
theorem size5 : (Try.prog.info? 5).map (·.size) = some 1 := by kernel_rfl
theorem sl28 (B m q : Nat) (h : q + m = 20) (hq : 0 < q) (w : World) : (Instr.sliceAt 28 (.pointer (some ⟨B, 0, none⟩)) (some (.int .i64 (m : Int))) none none).run Try.prog w = .ok (.slice (some ⟨B, m, none⟩) q q) w := by
  have h1 : Try.prog.arrayLen 28 = 20 := by kernel_rfl
  have h2 : Try.prog.elem 28 = 5 := by kernel_rfl
  have hu : Try.prog.underlying 28 = some (.array (Try.prog.arrayLen 28) (Try.prog.elem 28)) := by rw [h1, h2]; exact Try.underlying28
  obtain ⟨i0, hi, hz0, hz1, hz2⟩ := info_parts info5
  have hqm : 20 - m = q := by omega
  have hm : ¬ 20 = m := by omega
  rw [run_sliceAt_array_l w 28 _ hu .i64 m (by omega) (by rw [h1]; omega), h1, h2]
  simp [sizeOf, typeInfo, hi, hz1, slicedAt, Result.andThen, hqm, hm, Addr.add]
  omega
theorem heap_setCell_same {w : World} {b : Nat} {cs : Array Value} {t : TypeId} {fr : Nat × Nat} (h : w.heap[b]? = some (.cells cs t fr)) (o : Nat) (v : Value) : (w.setCell ⟨b, o, none⟩ v).heap[b]? = some (.cells (cs.setIfInBounds o v) t fr) := by
  obtain ⟨hb, he⟩ := Array.getElem?_eq_some_iff.1 h
  simp [World.setCell, Array.getElem?_modify, h]
/-- The buffer: from place m on it holds tl. -/
def Buf (W : World) (B m : Nat) (tl : List Int) : Prop := ∃ (cur : Array Value) (t : TypeId), W.heap[B]? = some (.cells cur t (0, 0)) ∧ cur.size = 20 ∧ ∀ j, m ≤ j → j < 20 → cur[j]? = some (.int .u8 (tl.getD (j - m) 0))
set_option maxRecDepth 100000 in
theorem digits_pos (n : Nat) (h0 : 0 < n) (hn : n < 10 ^ 9) (w : World) : Calls Try.prog 8 #[.int .i64 n] w fun e w' => ∃ g, e = .returned (.slice (some ⟨g, 0, none⟩) (digs n).length (digs n).length) ∧ BytesAt w' g 0 (digs n) ∧ Below w.heap.size w w' := by
  have hn0 : decide ((n : Int) ≤ 0) = false := by simp; omega
  go_enter Try.func8, Try.ntmps8
  go_wp2
  go_loopw [0, 4] (fun x i W => ∃ (xn m : Nat) (tl : List Int), x = .int .i64 xn ∧ i = .int .i64 m ∧ m ≤ 20 ∧ 11 ≤ m ∧ xn < 10 ^ (m - 11) ∧ Hid (tl.length + m = 20) ∧ Hid (digs0 xn ++ tl = digs n) ∧ Hid (Buf W w.heap.size m tl) ∧ Hid (Below w.heap.size w W)) (fun x _ _ => (intOf x).toNat)
  case atStart =>
    refine ⟨n, 20, [], rfl, rfl, by omega, by omega, hn, rfl, ?_, ?_, (Below.refl _ _).alloc (Nat.le_refl _) _⟩
    · show _ = _; simp [digs0]; omega
    · refine ⟨_, _, heap_new w _, ?_, fun j h1 h2 => by omega⟩
      rfl
  case round =>
    obtain ⟨xn, m, tl, rfl, rfl, hm20, hm11, hxb, HL, HD, HBF, HB⟩ := hrel
    by_cases hx : 0 < xn
    · have hm12 : 12 ≤ m := by
        rcases Nat.lt_or_ge m 12 with h | h
        · obtain rfl : m = 11 := by omega
          simp at hxb; omega
        · exact h
      obtain ⟨cur, t, hh, hs, hc⟩ := HBF.out
      obtain ⟨mm, rfl⟩ : ∃ mm, m = mm + 1 := ⟨m - 1, by omega⟩
      obtain ⟨v0, g1⟩ : ∃ v, wr.cell? ⟨w.heap.size, mm, none⟩ = some v := ⟨cur[mm]'(by omega), cell_of_block hh (by simp)⟩
      have hf : ∀ o, wr.frozen? ⟨w.heap.size, o, none⟩ = false := fun o => by simp [World.frozen?, hh]
      have hlw : w.heap.size < wr.heap.size := lt_of_cell g1
      have HBF' : Hid (Buf (wr.setCell ⟨w.heap.size, mm, none⟩ (.int .u8 (48 + (xn : Int) % 10))) w.heap.size mm ((48 + (xn : Int) % 10) :: tl)) := by
        refine ⟨_, t, heap_setCell_same hh _ _, by simpa using hs, fun j h1 h2 => ?_⟩
        rw [Array.getElem?_setIfInBounds]
        by_cases e : mm = j
        · subst e; rw [if_pos rfl, if_pos (by omega)]; simp
        · rw [if_neg e, hc j (by omega) h2, show j - mm = (j - (mm + 1)) + 1 by omega]; rfl
      have HD' : Hid (digs0 (xn / 10) ++ ((48 + (xn : Int) % 10) :: tl) = digs n) := by
        show _ = _
        rw [← HD.out, digs0_step hx, List.append_assoc]
        simp
      have hxq : xn / 10 < 10 ^ (mm - 11) := by
        rw [show mm + 1 - 11 = (mm - 11) + 1 by omega, Nat.pow_succ] at hxb
        omega
      have HX : Hid (xn / 10 < 10 ^ (mm - 11)) := hxq
      have hxs : (xn : Int) < 2 ^ 40 := by
        have h9 : 10 ^ (mm + 1 - 11) ≤ 10 ^ 9 := Nat.pow_le_pow_right (by omega) (by omega)
        omega
      clear hh hs hc HBF HD hxq hxb
      go_wp2
      refine ⟨⟨xn / 10, mm, (48 + (xn : Int) % 10) :: tl, by go_num, rfl, by omega, by omega, HX.out, ?_, HD', HBF', HB.out.setCell (Nat.le_refl _) _⟩, ?_⟩
      · have := HL.out; show _ = _; simp; omega
      · simp [intOf]; omega
    · have hx0 : xn = 0 := by omega
      subst hx0
      have htl : tl = digs n := by have := HD.out; simpa [digs0] using this
      obtain ⟨q, hq⟩ : ∃ q, tl.length = q := ⟨_, rfl⟩
      have HQ : Hid ((digs n).length = q) := by show _ = _; rw [← htl]; exact hq
      have HT : Hid (tl = digs n) := htl
      have hqm : q + m = 20 := by rw [← hq]; exact HL.out
      obtain ⟨cur, t, hh, hs, hc⟩ := HBF.out
      have HSRC : Hid (∀ W, Below wr.heap.size wr W → ∀ j v, (((digs n).map (Value.int .u8))[j]? = some v) → W.cell? ⟨w.heap.size, m + j, none⟩ = some v) := by
        intro W hb j v hv
        rw [← htl, List.getElem?_map] at hv
        have hj : j < tl.length := by
          rcases Nat.lt_or_ge j tl.length with h | h
          · exact h
          · rw [List.getElem?_eq_none h] at hv; cases hv
        have h1 := hc (m + j) (by omega) (by omega)
        rw [show m + j - m = j by omega] at h1
        have h2 : v = .int .u8 (tl.getD j 0) := by
          rw [List.getElem?_eq_getElem hj] at hv
          simp [List.getD, hj] at hv ⊢
          exact hv.symm
        rw [h2]
        have h3 := cell_of_block hh h1
        rw [hb.cell (lt_of_cell h3)]; exact h3
      have hlw : w.heap.size < wr.heap.size := (Array.getElem?_eq_some_iff.1 hh).1
      clear htl hq hh hs hc HBF HD HL
      obtain ⟨i0, hi, hz0, hz1, hz2⟩ := info_parts info5
      go_wp2_with (at_make; refine wpList_make_full _ rfl _ _ 22 rfl wr.heap.size 5 i0 (.int .u8 0) 1 Try.underlying22 hi hz0 hz1 .i64 .i64 _ _ q rfl rfl (by omega) (by omega) (by rw [hz2]; omega) (by unfold maxLen; omega) (Nat.le_refl _) ?_; intro w3 hown hgrow)
      obtain ⟨cur3, hh3, hs3⟩ : ∃ cur3 : Array Value, w3.heap[wr.heap.size]? = some (.cells cur3 5 (0, 0)) ∧ cur3.size = q := by
        rcases hown.2 with ⟨e, _⟩ | ⟨g, cp, cur, e, _, hh, _, _, hs, _⟩
        · cases e
        · cases e; exact ⟨cur, hh, by simpa using hs⟩
      have hb3 : Below wr.heap.size wr w3 := (Below.refl _ _).grown hgrow (Nat.le_refl _) (by simp)
      have HB3 : Hid (Below wr.heap.size wr w3) := hb3
      have HG3 : Hid (w3.heap[wr.heap.size]? = some (.cells cur3.toList.toArray 5 (0, 0))) := by show _ = _; simpa using hh3
      have HS3 : Hid (cur3.toList.length = q) := by show _ = _; simpa using hs3
      have hq0 : 0 < q := by rw [← HQ.out]; exact digs_pos n
      have hsl := sl28 w.heap.size m q hqm hq0
      clear hown hgrow hh3 hs3 hb3 hi hz0 hz1 hz2
      obtain ⟨c3, hc3⟩ : ∃ c3, cur3.toList = c3 := ⟨_, rfl⟩
      rw [hc3] at HG3 HS3
      clear hc3
      obtain ⟨cs, hcs⟩ : ∃ cs, (digs n).map (Value.int .u8) = cs := ⟨_, rfl⟩
      rw [hcs] at HSRC
      have HCL : Hid (cs.length = q) := by show _ = _; rw [← hcs, List.length_map]; exact HQ.out
      have HC1 : Hid (∀ v ∈ cs, v.oneCell' = true) := by
        intro v hv
        rw [← hcs, List.mem_map] at hv
        obtain ⟨x, _, rfl⟩ := hv
        rfl
      have HCS : Hid ((digs n).map (Value.int .u8) = cs) := hcs
      clear hcs
      rw [hsl]
      simp only [Result.andThen]
      rw [Oper.upon_value]
      go_wp2
      have hrun := run_copy_row (P := Try.prog) w3 22 22 3 5 wr.heap.size 0 q q ⟨w.heap.size, m, none⟩ q q c3.toArray 5 cs Try.underlying22 size5 HG3.out (by rw [HCL.out]; exact (Nat.min_self q).symm) (fun j v hv => by rw [add_none]; exact HSRC.out w3 HB3.out j v hv) (by have := HS3.out; rw [HCL.out]; simp; omega) HC1.out
      obtain ⟨w4, hw4⟩ : ∃ w4, w4 = w3.setRow wr.heap.size (c3.toArray.toList.take 0 ++ cs ++ c3.toArray.toList.drop (0 + cs.length)).toArray := ⟨_, rfl⟩
      rw [← hw4] at hrun
      have HG4 : Hid (w4.heap[wr.heap.size]? = some (.cells (cs ++ c3.drop cs.length).toArray 5 (0, 0))) := by
        show _ = _
        rw [hw4, setRow_heap _ _ _ _ _ _ HG3.out]
        simp
      have HB4 : Hid (Below wr.heap.size wr w4) := by rw [hw4]; exact below_setRow HB3.out (Nat.le_refl _) _
      clear hw4
      rw [hrun]
      simp only [Result.andThen]
      rw [Oper.upon_value]
      go_wp2
      go_ret
      refine ⟨wr.heap.size, by rw [HQ.out]; rfl, ?_, HB.out.trans (HB4.out.mono HB.out.size)⟩
      intro i hi
      refine cell_of_block HG4.out ?_
      rw [Nat.zero_add]
      have hi' : i < cs.length := by rw [HCL.out, ← HQ.out]; exact hi
      simp only [List.getElem?_toArray]
      rw [List.getElem?_append_left hi', ← HCS.out, List.getElem?_map, List.getElem?_eq_getElem hi]
      simp [List.getD, hi]
theorem digits_any (n : Nat) (hn : n < 10 ^ 9) (w : World) : Calls Try.prog 8 #[.int .i64 n] w fun e w' => ∃ g, e = .returned (.slice (some ⟨g, 0, none⟩) (digs n).length (digs n).length) ∧ BytesAt w' g 0 (digs n) ∧ Below w.heap.size w w' := by
  rcases Nat.eq_zero_or_pos n with rfl | h
  · exact digits_zero w
  · exact digits_pos n h hn w
end Go.Proofs.Qxb6604491a
