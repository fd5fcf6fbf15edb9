/-
  parseLength: the plain function, and the walk.
-/
import Derived.Test.Qxb6604491aRows
import Derived.Test.Qxb6604491aCutSuf
import Derived.WalkKit
import Derived.ProofKit
import Derived.Below
import Derived.Deep.DeepCutAuto
namespace Go.Proofs.Qxb6604491a
open Go.ChangeShapes Go.WideShapes Go.ChangeAt Go.RowKit

def plLoop (lim : Int) : Int → List Int → Int × Bool
  | n, [] => (n, true)
  | n, c :: cs => if c < 48 ∨ 57 < c then (0, false) else if lim < n * 10 + (c - 48) then (0, false) else plLoop lim (n * 10 + (c - 48)) cs
def BytesAt (w : World) (b o : Nat) (xs : List Int) : Prop := ∀ i, i < xs.length → w.cell? ⟨b, o + i, none⟩ = some (.int .u8 (xs.getD i 0))
theorem lt_of_cell {w : World} {b o : Nat} {v : Value} (h : w.cell? ⟨b, o, none⟩ = some v) : b < w.heap.size := by
  unfold World.cell? at h
  rcases Nat.lt_or_ge b w.heap.size with h' | h'
  · exact h'
  · simp [Array.getElem?_eq_none h'] at h
theorem BytesAt.kept {w w' : World} {b o : Nat} {xs : List Int} (h : BytesAt w b o xs) (hb : Below w.heap.size w w') : BytesAt w' b o xs := by
  intro i hi
  have := h i hi
  rw [hb.cell (lt_of_cell this)]; exact this
theorem bytesOf_snoc (ds : List Int) (c : Int) : Lib.bytesOf (ds ++ [c]) = Lib.bytesOf ds ++ Lib.bytesOf [c] := by simp [Lib.bytesOf]
theorem suf13 (ds : List Int) : Lib.hasSuffix (Lib.bytesOf (ds ++ [13])) (Lib.bytesOf [13]) = true := by
  rw [bytesOf_snoc, Lib.hasSuffix, List.isSuffixOf_iff_suffix]
  exact List.suffix_append _ _
theorem sufNo (ds : List Int) (c : Int) (h : 48 ≤ c ∧ c ≤ 57) : Lib.hasSuffix (Lib.bytesOf (ds ++ [c])) (Lib.bytesOf [13]) = false := by
  cases hs : Lib.hasSuffix (Lib.bytesOf (ds ++ [c])) (Lib.bytesOf [13]) with
  | false => rfl
  | true =>
    exfalso
    rw [bytesOf_snoc, Lib.hasSuffix, List.isSuffixOf_iff_suffix] at hs
    obtain ⟨t, ht⟩ := hs
    have := List.append_inj_right' ht (by simp [Lib.bytesOf])
    have hcc : c = 48 ∨ c = 49 ∨ c = 50 ∨ c = 51 ∨ c = 52 ∨ c = 53 ∨ c = 54 ∨ c = 55 ∨ c = 56 ∨ c = 57 := by omega
    rcases hcc with rfl | rfl | rfl | rfl | rfl | rfl | rfl | rfl | rfl | rfl <;> exact absurd this (by decide)
theorem cell_of_block {w : World} {b o : Nat} {cs : Array Value} {t : TypeId} {fr : Nat × Nat} {v : Value} (h : w.heap[b]? = some (.cells cs t fr)) (hv : cs[o]? = some v) : w.cell? ⟨b, o, none⟩ = some v := by simp [World.cell?, h, hv]
theorem heap_new (w : World) (o : Obj) : (w.alloc o).heap[w.heap.size]? = some o := by show (w.heap.push o)[w.heap.size]? = _; simp
set_option maxRecDepth 100000 in
theorem parse_no (b o cap : Nat) (ds : List Int) (c lim : Int) (w : World) (h : BytesAt w b o (ds ++ [c])) (hc : ds.length + 1 ≤ cap) (hcap : cap ≤ maxLen) (hd : 48 ≤ c ∧ c ≤ 57) :
    Calls Try.prog 9 #[.slice (some ⟨b, o, none⟩) (ds.length + 1) cap, .int .i64 lim] w fun e w' => e = .returned (.tuple #[.int .i64 0, .bool false]) ∧ Below w.heap.size w w' := by
  unfold maxLen at hcap
  have hbl : Below w.heap.size w (w.alloc (.cells #[.int .u8 13] 5)) := (Below.refl _ _).alloc (Nat.le_refl _) _
  have HB : Hid (Below w.heap.size w (w.alloc (.cells #[.int .u8 13] 5))) := hbl
  have HC : Hid (Calls Try.prog 10 #[.slice (some ⟨b, o, none⟩) (ds.length + 1) cap, .slice (some ⟨w.heap.size, 0, none⟩) 1 1] (w.alloc (.cells #[.int .u8 13] 5)) fun e w' => e = .returned (.tuple #[.slice (some ⟨b, o, none⟩) (ds.length + 1) cap, .bool false]) ∧ w' = w.alloc (.cells #[.int .u8 13] 5)) := by
    refine (Try.bytes_CutSuffix b o (ds.length + 1) cap w.heap.size 0 1 1 (ds ++ [c]) [13] _ (by simp) rfl hc (by omega) ?_ ?_).mono ?_
    · intro i hi
      have := (h.kept hbl) i (by simpa using hi)
      exact this
    · intro i hi
      obtain rfl : i = 0 := by omega
      exact cell_of_block (heap_new w _) rfl
    · rintro e w' ⟨rfl, rfl⟩
      refine ⟨?_, rfl⟩
      simp only [Lib.bytesTrimSuffix, sufNo ds c hd, Bool.false_eq_true, if_false]
  clear hbl h
  generalize ds.length + 1 = n at *
  go_enter Try.func9, Try.ntmps9
  go_wp2_with fail
  refine Calls.mono HC.out ?_
  rintro r w1 ⟨rfl, rfl⟩
  go_wp2
  go_ret2
  exact ⟨rfl, HB.out⟩

theorem getD_app {xs ys : List Int} {i : Nat} (h : i < xs.length) : (xs ++ ys).getD i 0 = xs.getD i 0 := by simp [List.getD, List.getElem?_append, h]
theorem drop_get {ds : List Int} {k : Nat} (h : k < ds.length) : ds.drop k = ds.getD k 0 :: ds.drop (k + 1) := by
  rw [List.drop_eq_getElem_cons h]
  simp [List.getD, h]
set_option maxRecDepth 100000 in
theorem parse_yes (b o cap : Nat) (ds : List Int) (lim : Int) (w : World) (h : BytesAt w b o (ds ++ [13])) (hc : ds.length + 1 ≤ cap) (hcap : cap ≤ maxLen) (h0 : 0 < ds.length) (hl : -1 ≤ lim ∧ lim ≤ 214748363) :
    Calls Try.prog 9 #[.slice (some ⟨b, o, none⟩) (ds.length + 1) cap, .int .i64 lim] w fun e w' => e = .returned (.tuple #[.int .i64 (plLoop lim 0 ds).1, .bool (plLoop lim 0 ds).2]) ∧ Below w.heap.size w w' := by
  unfold maxLen at hcap
  have hbl : Below w.heap.size w (w.alloc (.cells #[.int .u8 13] 5)) := (Below.refl _ _).alloc (Nat.le_refl _) _
  have HB : Hid (Below w.heap.size w (w.alloc (.cells #[.int .u8 13] 5))) := hbl
  have HC : Hid (Calls Try.prog 10 #[.slice (some ⟨b, o, none⟩) (ds.length + 1) cap, .slice (some ⟨w.heap.size, 0, none⟩) 1 1] (w.alloc (.cells #[.int .u8 13] 5)) fun e w' => e = .returned (.tuple #[.slice (some ⟨b, o, none⟩) ds.length cap, .bool true]) ∧ w' = w.alloc (.cells #[.int .u8 13] 5)) := by
    refine (Try.bytes_CutSuffix b o (ds.length + 1) cap w.heap.size 0 1 1 (ds ++ [13]) [13] _ (by simp) rfl hc (by omega) ?_ ?_).mono ?_
    · intro i hi
      have := (h.kept hbl) i (by simpa using hi)
      exact this
    · intro i hi
      obtain rfl : i = 0 := by omega
      exact cell_of_block (heap_new w _) rfl
    · rintro e w' ⟨rfl, rfl⟩
      refine ⟨?_, rfl⟩
      simp only [Lib.bytesTrimSuffix, suf13 ds, if_true, Lib.sliceTo, List.length_cons, List.length_nil, Nat.zero_add, Nat.add_sub_cancel]
  have HD : Hid (∀ i, i < ds.length → (w.alloc (.cells #[.int .u8 13] 5)).cell? ⟨b, o + i, none⟩ = some (.int .u8 (ds.getD i 0))) := by
    intro i hi
    have := (h.kept hbl) i (by simp; omega)
    rw [getD_app hi] at this
    exact this
  clear hbl h
  obtain ⟨n, hn⟩ : ∃ n, ds.length = n := ⟨_, rfl⟩
  rw [hn] at HC HD h0 hc ⊢
  have HN : Hid (ds.length = n) := hn
  clear hn
  have hne : ((n : Int) == 0) = false := beq_eq_false_iff_ne.2 (by omega)
  go_enter Try.func9, Try.ntmps9
  go_wp2_with fail
  refine Calls.mono HC.out ?_
  rintro r w1 ⟨rfl, hw1⟩
  rw [← hw1] at HB HD
  clear hw1 HC
  go_wp2
  go_loopw [8, 26] (fun a i W => ∃ (k : Nat) (x : Int), k ≤ n ∧ i = .int .i64 k ∧ a = .int .i64 x ∧ W = w1 ∧ (0 ≤ x ∧ x ≤ 214748363) ∧ Hid (plLoop lim 0 ds = plLoop lim x (ds.drop k))) (fun _ i _ => n - (intOf i).toNat)
  case atStart => exact ⟨0, 0, Nat.zero_le _, rfl, rfl, rfl, ⟨by omega, by omega⟩, rfl⟩
  case round =>
    obtain ⟨k, x, hk, rfl, rfl, rfl, hx, HL⟩ := hrel
    by_cases hlt : k < n
    · have hcell := HD.out k hlt
      have hlb := lt_of_cell hcell
      have hL := HL.out
      rw [drop_get (by rw [HN.out]; exact hlt), plLoop] at hL
      obtain ⟨c, hcc⟩ : ∃ c, ds.getD k 0 = c := ⟨_, rfl⟩
      rw [hcc] at hcell hL
      clear hcc
      by_cases hbad : c < 48 ∨ 57 < c
      · rw [if_pos hbad] at hL
        have HL : Hid (plLoop lim 0 ds = (0, false)) := hL
        clear hL
        by_cases h48 : c < 48
        · go_wp2
          go_ret2
          exact ⟨by rw [HL.out]; rfl, HB.out⟩
        · have h57 : 57 < c := by omega
          go_wp2
          go_ret2
          exact ⟨by rw [HL.out]; rfl, HB.out⟩
      · rw [if_neg hbad] at hL
        have h48 : ¬ c < 48 := by omega
        have h57 : ¬ 57 < c := by omega
        by_cases hgt : lim < x * 10 + (c - 48)
        · rw [if_pos hgt] at hL
          have HL : Hid (plLoop lim 0 ds = (0, false)) := hL
          clear hL
          go_wp2
          go_ret2
          exact ⟨by rw [HL.out]; rfl, HB.out⟩
        · rw [if_neg hgt] at hL
          have HL : Hid (plLoop lim 0 ds = plLoop lim (x * 10 + (c - 48)) (ds.drop (k + 1))) := hL
          clear hL
          go_wp2
          refine ⟨⟨k + 1, x * 10 + (c - 48), hlt, by go_num, by go_num, trivial, ⟨by omega, by omega⟩, HL⟩, by simp [intOf]; omega⟩
    · have hkn : k = n := by omega
      subst hkn
      have hL := HL.out
      rw [List.drop_of_length_le (by rw [HN.out]; omega), plLoop] at hL
      have HL : Hid (plLoop lim 0 ds = (x, true)) := hL
      clear hL
      go_wp2
      go_ret2
      exact ⟨by rw [HL.out]; rfl, HB.out⟩
end Go.Proofs.Qxb6604491a
