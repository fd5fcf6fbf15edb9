/-
  The walk of FnParseLengthRoundTrip.
-/
import Derived.Test.Qxb6604491aDigits
namespace Go.Proofs.Qxb6604491a
open Go.ChangeShapes Go.WideShapes Go.ChangeAt Go.RowKit

theorem zz_no (b o cap : Nat) (ds : List Int) (c lim : Int) (w : World) (h : BytesAt w b o (ds ++ [c])) (hc : ds.length + 1 ≤ cap) (hcap : cap ≤ maxLen) (hd : 48 ≤ c ∧ c ≤ 57) :
    Calls Try.prog 6 #[.slice (some ⟨b, o, none⟩) (ds.length + 1) cap, .int .i64 lim] w fun e w' => e = .returned (.tuple #[.int .i64 0, .bool false]) ∧ Below w.heap.size w w' := by
  have HC : Hid (Calls Try.prog 9 #[.slice (some ⟨b, o, none⟩) (ds.length + 1) cap, .int .i64 lim] w fun e w' => e = .returned (.tuple #[.int .i64 0, .bool false]) ∧ Below w.heap.size w w') := parse_no b o cap ds c lim w h hc hcap hd
  generalize ds.length + 1 = m at *
  go_enter Try.func6, Try.ntmps6
  go_wp2_with fail
  refine Calls.mono HC.out ?_
  rintro r w1 ⟨rfl, hb⟩
  go_wp2
  go_ret2
  exact ⟨rfl, hb⟩
theorem zz_yes (b o cap : Nat) (ds : List Int) (lim : Int) (w : World) (h : BytesAt w b o (ds ++ [13])) (hc : ds.length + 1 ≤ cap) (hcap : cap ≤ maxLen) (h0 : 0 < ds.length) (hl : -1 ≤ lim ∧ lim ≤ 214748363) :
    Calls Try.prog 6 #[.slice (some ⟨b, o, none⟩) (ds.length + 1) cap, .int .i64 lim] w fun e w' => e = .returned (.tuple #[.int .i64 (plLoop lim 0 ds).1, .bool (plLoop lim 0 ds).2]) ∧ Below w.heap.size w w' := by
  have HC : Hid (Calls Try.prog 9 #[.slice (some ⟨b, o, none⟩) (ds.length + 1) cap, .int .i64 lim] w fun e w' => e = .returned (.tuple #[.int .i64 (plLoop lim 0 ds).1, .bool (plLoop lim 0 ds).2]) ∧ Below w.heap.size w w') := parse_yes b o cap ds lim w h hc hcap h0 hl
  generalize ds.length + 1 = m at *
  generalize (plLoop lim 0 ds).1 = x at *
  generalize (plLoop lim 0 ds).2 = y at *
  go_enter Try.func6, Try.ntmps6
  go_wp2_with fail
  refine Calls.mono HC.out ?_
  rintro r w1 ⟨rfl, hb⟩
  go_wp2
  go_ret2
  exact ⟨rfl, hb⟩
theorem made_row {w : World} {base g q : Nat} {l : List Value} (h : w.ownsRow base 5 1 (.slice (some ⟨g, 0, none⟩) q q) q l) : ∃ cur : List Value, w.heap[g]? = some (.cells cur.toArray 5 (0, 0)) ∧ cur.length = q := by
  rcases h.2 with ⟨e, _⟩ | ⟨g, cp, cur, e, _, hh, _, _, hs, _⟩
  · cases e
  · cases e; exact ⟨cur.toList, by simpa using hh, by simpa using hs⟩
def nums (xs : List Int) : List Value := xs.map (Value.int .u8)
theorem nums_one {xs : List Int} : ∀ v ∈ nums xs, v.oneCell' = true := by
  intro v hv
  obtain ⟨x, _, rfl⟩ := List.mem_map.1 hv
  rfl
theorem BytesAt.cells {w : World} {b o : Nat} {xs : List Int} (h : BytesAt w b o xs) {j : Nat} {v : Value} (hv : (nums xs)[j]? = some v) : w.cell? ⟨b, o + j, none⟩ = some v := by
  have hj : j < xs.length := by
    rcases Nat.lt_or_ge j xs.length with h' | h'
    · exact h'
    · rw [nums, List.getElem?_map, List.getElem?_eq_none h'] at hv; cases hv
  rw [h j hj]
  rw [nums, List.getElem?_map, List.getElem?_eq_getElem hj] at hv
  simp [List.getD, hj] at hv ⊢
  exact hv
theorem bytesAt_of_block {w : World} {b : Nat} {xs : List Int} {t : TypeId} (h : w.heap[b]? = some (.cells (nums xs).toArray t (0, 0))) : BytesAt w b 0 xs := by
  intro i hi
  refine cell_of_block h ?_
  rw [Nat.zero_add, List.getElem?_toArray, nums, List.getElem?_map, List.getElem?_eq_getElem hi]
  simp [List.getD, hi]

theorem sl22 (b q : Nat) (hq : 0 < q) (w : World) : (Instr.slice 22 (.slice (some ⟨b, 0, none⟩) (q + 2) (q + 2)) (some (.int .i64 2)) none none).run Try.prog w = .ok (.slice (some ⟨b, 2, none⟩) q q) w := by
  have h2 : Try.prog.elem 22 = 5 := by kernel_rfl
  have hu : Try.prog.underlying 22 = some (.slice (Try.prog.elem 22)) := by rw [h2]; exact Try.underlying22
  obtain ⟨i0, hi, hz0, hz1, hz2⟩ := info_parts info5
  rw [run_slice_l w 22 _ _ _ hu .i64 2 (by omega) (by omega), h2]
  simp [sizeOf, typeInfo, hi, hz1, sliced, Result.andThen, Addr.add]
  omega
set_option maxRecDepth 100000 in
theorem law_main (n : Nat) (lim : Int) (h1 : (n : Int) ≤ lim) (h2 : lim ≤ 214748363) (w : World) : Calls Try.prog 4 #[.int .i64 n, .int .i64 lim] w fun e w' => e = .returned (.bool true) ∧ Below w.heap.size w w' := by
  obtain ⟨i0, hi, hz0, hz1, hz2⟩ := info_parts info5
  have k1 : decide (lim < 0) = false := by simp; omega
  have k2 : decide ((214748363 : Int) < lim) = false := by simp; omega
  have k3 : decide ((n : Int) < 0) = false := by simp
  have k4 : decide (lim < (n : Int)) = false := by simp; omega
  have hL9 := digs_len 9 n (by omega)
  have hL0 := digs_pos n
  obtain ⟨L, hL⟩ : ∃ L, (digs n).length = L := ⟨_, rfl⟩
  have HD : Hid (Calls Try.prog 8 #[.int .i64 n] w fun e w' => ∃ g, e = .returned (.slice (some ⟨g, 0, none⟩) L L) ∧ BytesAt w' g 0 (digs n) ∧ Below w.heap.size w w') := by rw [← hL]; exact digits_any n (by omega) w
  rw [hL] at hL9 hL0
  have HL : Hid ((digs n).length = L) := hL
  have HLn : Hid ((nums (digs n)).length = L) := by show _ = _; rw [nums, List.length_map]; exact hL
  clear hL
  go_enter Try.func4, Try.ntmps4
  go_wp2_with fail
  refine Calls.mono HD.out ?_
  rintro r w1 ⟨gd, rfl, hbd, hb1⟩
  have HBD : Hid (BytesAt w1 gd 0 (digs n)) := hbd
  have HB1 : Hid (Below w.heap.size w w1) := hb1
  clear hbd hb1 HD
  go_wp2_with (at_make; refine wpList_make_full _ rfl _ _ 22 rfl w1.heap.size 5 i0 (.int .u8 0) 1 Try.underlying22 hi hz0 hz1 .i64 .i64 _ _ (L + 1) rfl rfl (by omega) (by omega) (by rw [hz2]; omega) (by unfold maxLen; omega) (Nat.le_refl _) ?_; intro w2 hown hgrow)
  obtain ⟨c2, hg2, hl2⟩ := made_row hown
  have hb2 : Below w1.heap.size w1 w2 := (Below.refl _ _).grown hgrow (Nat.le_refl _) (by simp)
  have hrun := run_copy_row (P := Try.prog) w2 22 22 3 5 w1.heap.size 0 (L + 1) (L + 1) ⟨gd, 0, none⟩ L L c2.toArray 5 (nums (digs n)) Try.underlying22 size5 hg2 (by rw [HLn.out]; exact (Nat.min_eq_left (by omega)).symm) (fun j v hv => by rw [add_none]; exact (HBD.out.kept hb2).cells hv) (by rw [HLn.out]; simp; omega) nums_one
  obtain ⟨w3, hw3⟩ : ∃ w3, w3 = w2.setRow w1.heap.size (c2.toArray.toList.take 0 ++ nums (digs n) ++ c2.toArray.toList.drop (0 + (nums (digs n)).length)).toArray := ⟨_, rfl⟩
  rw [← hw3] at hrun
  obtain ⟨x3, hx3⟩ : ∃ x3, c2.drop L = [x3] := by
    have : (c2.drop L).length = 1 := by simp; omega
    match c2.drop L, this with
    | [x], _ => exact ⟨x, rfl⟩
  have hg3 : w3.heap[w1.heap.size]? = some (.cells (nums (digs n) ++ [x3]).toArray 5 (0, 0)) := by
    rw [hw3, setRow_heap _ _ _ _ _ _ hg2, ← hx3]
    simp [HLn.out]
  have HG3 : Hid (w3.heap[w1.heap.size]? = some (.cells (nums (digs n) ++ [x3]).toArray 5 (0, 0))) := hg3
  have hb3 : Below w1.heap.size w1 w3 := by rw [hw3]; exact below_setRow hb2 (Nat.le_refl _) _
  have HB3 : Hid (Below w1.heap.size w1 w3) := hb3
  have e3 : w3.cell? ⟨w1.heap.size, L, none⟩ = some x3 := cell_of_block hg3 (by rw [List.getElem?_toArray, List.getElem?_append_right (by rw [HLn.out]; omega), HLn.out, Nat.sub_self]; rfl)
  have f3 : ∀ o, w3.frozen? ⟨w1.heap.size, o, none⟩ = false := fun o => by simp [World.frozen?, hg3]
  have l3 : w1.heap.size < w3.heap.size := lt_of_cell e3
  have HG4 : Hid ((w3.setCell ⟨w1.heap.size, L, none⟩ (.int .u8 13)).heap[w1.heap.size]? = some (.cells (nums (digs n ++ [13])).toArray 5 (0, 0))) := by
    show _ = _
    rw [heap_setCell_same hg3]
    congr 2
    apply Array.ext'
    rw [Array.toList_setIfInBounds]
    simp only [nums, List.map_append, List.map_cons, List.map_nil]
    rw [List.set_append_right _ _ (by rw [List.length_map, HL.out]; omega), List.length_map, HL.out, Nat.sub_self]
    rfl
  have HB4 : Hid (Below w1.heap.size w1 (w3.setCell ⟨w1.heap.size, L, none⟩ (.int .u8 13))) := hb3.setCell (Nat.le_refl _) _
  clear hw3 hg3 hb3 hx3 hg2 hl2 hown hgrow hb2
  rw [hrun]
  simp only [Result.andThen]
  rw [Oper.upon_value]
  clear hrun
  go_wp2
  obtain ⟨w4, hw4⟩ : ∃ w4, w4 = w3.setCell ⟨w1.heap.size, L, none⟩ (.int .u8 13) := ⟨_, rfl⟩
  rw [← hw4] at HG4 HB4 ⊢
  clear hw4 e3 f3 l3 HG3 HB3
  obtain ⟨w5, hrun, hown, hgrow⟩ := run_make_full (P := Try.prog) w4 w4.heap.size 22 5 i0 (.int .u8 0) 1 Try.underlying22 hi hz0 hz1 .i64 .i64 (L + 3) (by rw [hz2]; omega) (by unfold maxLen; omega) (Nat.le_refl _)
  rw [show ((L : Int) + 1 + 2) = ((L + 3 : Nat) : Int) by omega, hrun]
  simp only [Result.andThen]
  rw [Oper.upon_value]
  clear hrun
  obtain ⟨c5, hg5, hl5⟩ := made_row hown
  have hb5 : Below w4.heap.size w4 w5 := (Below.refl _ _).grown hgrow (Nat.le_refl _) (by simp)
  obtain ⟨gz, hgz⟩ : ∃ gz, w4.heap.size = gz := ⟨_, rfl⟩
  have HGZ : Hid (w4.heap.size = gz) := hgz
  have hgs : w1.heap.size < gz := by rw [← hgz]; exact (Array.getElem?_eq_some_iff.1 HG4.out).1
  rw [hgz] at hg5 hb5 ⊢
  obtain ⟨x0, x1, c6, rfl⟩ : ∃ x0 x1 c6, c5 = x0 :: x1 :: c6 := by
    match c5, hl5 with
    | x0 :: x1 :: c6, _ => exact ⟨x0, x1, c6, rfl⟩
  have e50 : w5.cell? ⟨gz, 0, none⟩ = some x0 := cell_of_block hg5 rfl
  have e51 : w5.cell? ⟨gz, 1, none⟩ = some x1 := cell_of_block hg5 rfl
  have f5 : ∀ o, w5.frozen? ⟨gz, o, none⟩ = false := fun o => by simp [World.frozen?, hg5]
  have l5 : gz < w5.heap.size := lt_of_cell e50
  have hl6 : c6.length = L + 1 := by simpa using hl5
  have HG7 : Hid (((w5.setCell ⟨gz, 0, none⟩ (.int .u8 48)).setCell ⟨gz, 1, none⟩ (.int .u8 48)).heap[gz]? = some (.cells (.int .u8 48 :: .int .u8 48 :: c6).toArray 5 (0, 0))) := by
    show _ = _
    rw [heap_setCell_same (heap_setCell_same hg5 _ _)]
    rfl
  have HB7 : Hid (Below gz w4 ((w5.setCell ⟨gz, 0, none⟩ (.int .u8 48)).setCell ⟨gz, 1, none⟩ (.int .u8 48))) := (hb5.setCell (Nat.le_refl _) _).setCell (Nat.le_refl _) _
  have hsl := sl22 gz (L + 1) (by omega)
  clear hown hgrow hgz hg5 hb5 hl5
  go_wp2
  obtain ⟨w7, hw7⟩ : ∃ w7, w7 = (w5.setCell ⟨gz, 0, none⟩ (.int .u8 48)).setCell ⟨gz, 1, none⟩ (.int .u8 48) := ⟨_, rfl⟩
  rw [← hw7] at HG7 HB7 ⊢
  clear hw7 e50 e51 f5 l5 hsl
  have hs7 : BytesAt w7 w1.heap.size 0 (digs n ++ [13]) := (bytesAt_of_block HG4.out).kept (by rw [HGZ.out]; exact HB7.out)
  have hn7 : (nums (digs n ++ [13])).length = L + 1 := by simp only [nums, List.length_map, List.length_append, HL.out]; rfl
  have hrun := run_copy_row (P := Try.prog) w7 22 22 3 5 gz 2 (L + 1) (L + 1) ⟨w1.heap.size, 0, none⟩ (L + 1) (L + 1) (.int .u8 48 :: .int .u8 48 :: c6).toArray 5 (nums (digs n ++ [13])) Try.underlying22 size5 HG7.out (by rw [hn7]; exact (Nat.min_self _).symm) (fun j v hv => by rw [add_none]; exact hs7.cells hv) (by rw [hn7]; simp; omega) nums_one
  obtain ⟨w8, hw8⟩ : ∃ w8, w8 = w7.setRow gz ((Value.int .u8 48 :: .int .u8 48 :: c6).toArray.toList.take 2 ++ nums (digs n ++ [13]) ++ (Value.int .u8 48 :: .int .u8 48 :: c6).toArray.toList.drop (2 + (nums (digs n ++ [13])).length)).toArray := ⟨_, rfl⟩
  rw [← hw8] at hrun
  have hg8 : w8.heap[gz]? = some (.cells (nums ([48, 48] ++ digs n ++ [13])).toArray 5 (0, 0)) := by
    rw [hw8, setRow_heap _ _ _ _ _ _ HG7.out, hn7]
    congr 3
    rw [List.drop_of_length_le (by simp; omega)]
    simp [nums]
  have hb8 : Below gz w4 w8 := by rw [hw8]; exact below_setRow HB7.out (Nat.le_refl _) _
  have hz8 : BytesAt w8 gz 0 ([48, 48] ++ digs n ++ [13]) := bytesAt_of_block hg8
  have hs8 : BytesAt w8 w1.heap.size 0 (digs n ++ [13]) := (bytesAt_of_block HG4.out).kept (by rw [HGZ.out]; exact hb8)
  have hb18 : Below w1.heap.size w1 w8 := HB4.out.trans (hb8.mono (by omega))
  have hd8 : BytesAt w8 gd 0 (digs n) := HBD.out.kept hb18
  have HB8 : Hid (Below w.heap.size w w8) := HB1.out.trans (hb18.mono HB1.out.size)
  have HY1 : Hid (∀ W, Below w8.heap.size w8 W → Calls Try.prog 6 #[.slice (some ⟨w1.heap.size, 0, none⟩) (L + 1) (L + 1), .int .i64 lim] W fun e w' => e = .returned (.tuple #[.int .i64 n, .bool true]) ∧ Below W.heap.size W w') := by
    intro W hb
    have := zz_yes w1.heap.size 0 (L + 1) (digs n) lim W (hs8.kept hb) (by rw [HL.out]; omega) (by unfold maxLen; omega) (by rw [HL.out]; exact hL0) ⟨by omega, h2⟩
    rw [HL.out, plLoop_digs, if_pos h1] at this
    exact this
  have HY2 : Hid (∀ W, Below w8.heap.size w8 W → Calls Try.prog 6 #[.slice (some ⟨gz, 0, none⟩) (L + 3) (L + 3), .int .i64 lim] W fun e w' => e = .returned (.tuple #[.int .i64 n, .bool true]) ∧ Below W.heap.size W w') := by
    intro W hb
    have hl2 : ([48, 48] ++ digs n).length = L + 2 := by rw [List.length_append, HL.out]; simp; omega
    have := zz_yes gz 0 (L + 3) ([48, 48] ++ digs n) lim W (hz8.kept hb) (by rw [hl2]; omega) (by unfold maxLen; omega) (by rw [hl2]; omega) ⟨by omega, h2⟩
    rw [hl2, plLoop_zeros lim (by omega), plLoop_digs, if_pos h1] at this
    exact this
  have HY3 : Hid (∀ W, Below w8.heap.size w8 W → Calls Try.prog 6 #[.slice (some ⟨gd, 0, none⟩) L L, .int .i64 lim] W fun e w' => e = .returned (.tuple #[.int .i64 0, .bool false]) ∧ Below W.heap.size W w') := by
    intro W hb
    obtain ⟨ds, c, hds, hc⟩ := digs_split n
    have hl3 : ds.length + 1 = L := by rw [← HL.out, hds]; simp
    have := zz_no gd 0 L ds c lim W (by rw [← hds]; exact hd8.kept hb) (by omega) (by unfold maxLen; omega) hc
    rw [hl3] at this
    exact this
  have HY4 : Hid (∀ W, Below w8.heap.size w8 W → Calls Try.prog 6 #[.slice (some ⟨w1.heap.size, 0, none⟩) (L + 1) (L + 1), .int .i64 ((n : Int) - 1)] W fun e w' => e = .returned (.tuple #[.int .i64 0, .bool false]) ∧ Below W.heap.size W w') := by
    intro W hb
    have := zz_yes w1.heap.size 0 (L + 1) (digs n) ((n : Int) - 1) W (hs8.kept hb) (by rw [HL.out]; omega) (by unfold maxLen; omega) (by rw [HL.out]; exact hL0) ⟨by omega, by omega⟩
    rw [HL.out, plLoop_digs, if_neg (by omega)] at this
    exact this
  rw [hrun]
  simp only [Result.andThen]
  rw [Oper.upon_value]
  clear hrun hw8 hg8 hb8 hz8 hs8 hb18 hd8 hs7 hn7 HG7 HB7 HG4 HB4 HBD HB1
  go_wp2_with fail
  refine Calls.mono (HY1.out w8 (Below.refl _ _)) ?_
  rintro r w9 ⟨rfl, hb9⟩
  have HB9 : Hid (Below w8.heap.size w8 w9) := hb9
  clear hb9
  go_wp2_with fail
  refine Calls.mono (HY2.out w9 HB9.out) ?_
  rintro r w10 ⟨rfl, hb10⟩
  have HB10 : Hid (Below w8.heap.size w8 w10) := HB9.out.trans (hb10.mono HB9.out.size)
  clear hb10
  go_wp2_with fail
  refine Calls.mono (HY3.out w10 HB10.out) ?_
  rintro r w11 ⟨rfl, hb11⟩
  have HB11 : Hid (Below w8.heap.size w8 w11) := HB10.out.trans (hb11.mono HB10.out.size)
  clear hb11
  go_wp2_with fail
  refine Calls.mono (HY4.out w11 HB11.out) ?_
  rintro r w12 ⟨rfl, hb12⟩
  have HB12 : Hid (Below w8.heap.size w8 w12) := HB11.out.trans (hb12.mono HB11.out.size)
  clear hb12
  go_wp2
  go_ret
  exact ⟨rfl, HB8.out.trans (HB12.out.mono HB8.out.size)⟩
end Go.Proofs.Qxb6604491a
