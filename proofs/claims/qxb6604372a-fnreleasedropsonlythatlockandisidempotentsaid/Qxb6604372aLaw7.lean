/-
  The walk of FnReleaseDropsOnlyThatLockAndIsIdempotent.
-/
import Derived.Test.Qxb6604372aLaw5
import Derived.Test.Qxb6604372aRelS
namespace Go.Proofs.Qxb6604372a
open Go.ChangeShapes Go.WideShapes Go.ChangeAt Go.RowKit

theorem Fill.setRow {w : World} {g len : Nat} {f : Nat → Int} (h : Fill w g len f len) (i : Nat) (v : Int) : IntRow (w.setCell ⟨g, i, none⟩ (.int .i64 v)) g ((List.range len).map fun j => if j = i then v else f j) := by
  obtain ⟨cur, hh, hs, hc⟩ := h
  intro j y hj
  obtain ⟨hlt, rfl⟩ := mapRange_get hj
  refine cell_of_block (heap_setCell_same hh _ _) ?_
  rw [Array.getElem?_setIfInBounds]
  by_cases e : i = j
  · subst e; rw [if_pos rfl, if_pos (by omega), if_pos rfl]
  · rw [if_neg e, hc j hlt, if_neg (fun h => e h.symm)]
theorem relX_row {len i : Nat} : ∀ (j : Nat) x, ((List.range len).map fun j => if j = i then (len : Int) else relF j)[j]? = some x → (x = -1 ↔ relX r0 i j = false) := by
  intro j x h
  obtain ⟨hlt, rfl⟩ := mapRange_get h
  by_cases e : j = i
  · subst e; simp [relX]
  · simp [relX, r0, relF, e]
theorem relX_twice (rel : Nat → Bool) (i : Nat) : relX (relX rel i) i = relX rel i := relX_same (by simp [relX])
/-- The script is done; the report before lies in RB, the row of releases in rg. -/
structure R7 (W0 : World) (A RB rg : Nat) (evs : List Ev) (rps : List Int) (rel : Nat → Bool) (lc cv : Int) (L : Lay) (W : World) : Prop where
  st : ScrSt W0.heap.size evs rel lc cv [] L W
  A : L.A = A
  below : Below W0.heap.size W0 W
  rb : W.heap[RB]? = some (.cells #[.int .i64 0, .int .i64 lc, .int .i64 0, .int .i64 0, .int .i64 0, .int .i64 cv, .int .i64 0, .int .i64 0] 39)
  rp : IntRow W rg rps
  rgl : rg < W.heap.size
  oB : L.own RB = none
  oG : L.own rg = none
section
variable {W0 W W' : World} {A RB rg : Nat} {evs : List Ev} {rps : List Int} {rel : Nat → Bool} {lc cv : Int} {L L' : Lay}
theorem R7.kept (h : R7 W0 A RB rg evs rps rel lc cv L W) (hb : Below W.heap.size W W') : R7 W0 A RB rg evs rps rel lc cv L W' where
  st := h.st.below hb
  A := h.A
  below := h.below.trans (hb.mono h.below.size)
  rb := by rw [hb.block _ (Array.getElem?_eq_some_iff.1 h.rb).1]; exact h.rb
  rp := h.rp.kept hb
  rgl := Nat.lt_of_lt_of_le h.rgl hb.size
  oB := h.oB
  oG := h.oG
theorem R7.release (h : R7 W0 A RB rg evs rps rel lc cv L W) (i : Nat) (hi : i < evs.length) (hl : evs.length ≤ 1024) : Calls Try.prog 28 #[pv A, .int .i64 i] W fun r w' => r = .returned (.tuple #[]) ∧ ∃ L', R7 W0 A RB rg evs rps (relX rel i) lc cv L' w' := by
  refine (zrelease_scr i A W h.st h.A hi hl).mono ?_
  rintro r w' ⟨rfl, L', h1, h2, h3, h4⟩
  have hrl := (Array.getElem?_eq_some_iff.1 h.rb).1
  refine ⟨rfl, L', h1, h2, h.below.trans (h3.below (fun b t e => (h.st.inv.lt b t e).1) h.below.size), (h3.block _ hrl h.oB).trans h.rb, ?_, Nat.lt_of_lt_of_le h.rgl h3.size, (h4.own _ hrl).trans h.oB, (h4.own _ h.rgl).trans h.oG⟩
  intro j x hx
  have h0 := h.rp j x hx
  rw [World.cell?_of_block (w := W) (a := ⟨rg, j, none⟩) (h3.block _ h.rgl h.oG)]; exact h0
theorem R7.rep (h : R7 W0 A RB rg evs rps rel lc cv L W) : Calls Try.prog 16 #[pv A] W fun e w' => e = .returned (.agg #[.int .i64 0, .int .i64 lc, .int .i64 0, .int .i64 0, .int .i64 0, .int .i64 cv, .int .i64 0, .int .i64 0]) ∧ Below W.heap.size W w' := by
  have := report_any W h.st.inv
  rw [h.A] at this
  exact this
theorem R7.mat (h : R7 W0 A RB rg evs rps rel lc cv L W) {len ec : Nat} {ea : Option Addr} (hk : evs.length = len) (hl : len ≤ 1024) (hev : 0 < evs.length → ∃ g, ea = some ⟨g, 0, none⟩ ∧ EvRow W0 g evs) (hrl : rps.length = len) (hre : ∀ (j : Nat) x, rps[j]? = some x → (x = -1 ↔ rel j = false)) :
    Calls Try.prog 23 #[pv A, .slice ea len ec, .slice (some ⟨rg, 0, none⟩) len len, .int .i64 0] W fun r w' => r = .returned (.bool true) ∧ Below W.heap.size W w' := by
  have := stateMatches_any rps ea (some ⟨rg, 0, none⟩) ec len A W h.st h.A (fun h0 => by obtain ⟨g, e, hg⟩ := hev h0; exact ⟨g, e, hg.kept h.below⟩) (fun _ => ⟨rg, rfl, h.rp⟩) (by rw [hk]; exact hrl) hre (by rw [hk]; exact hl) (by simp)
  rw [hk] at this
  exact this
end
attribute [local go_sem ↓] equal39_lit
set_option maxRecDepth 100000 in
set_option maxHeartbeats 4000000 in
theorem law7_small (a : Option Addr) (len cap : Nat) (evs : List Ev) (i : Nat) (w : World) (h : ElemsAt 8 evCells w a len evs) (hl : len ≤ 1024) (hil : i < len) :
    Calls Try.prog 7 #[.slice a len cap, .int .i64 i] w fun e w' => e = .returned (.bool true) ∧ Below w.heap.size w w' := by
  obtain ⟨i0, hi, hz0, hz1, hz2⟩ := info_parts info3'
  have HK : Hid (evs.length = len) := h.1
  have HEL : Hid (ElemsAt 8 evCells w a len evs) := h
  have hd : decide ((1024 : Int) < (len : Int)) = false := by simp; omega
  have hd1 : decide ((i : Int) < 0) = false := by simp
  have hd2 : decide ((len : Int) ≤ (i : Int)) = false := by simp; omega
  clear h
  go_enter Try.func7, Try.ntmps7
  go_wp2_with fail
  refine (zzBytes30 a len cap _ _ (by unfold maxLen; omega)).mono ?_
  rintro r w1 ⟨rfl, rfl⟩
  have hdd : decide (len ≤ 1048576) = true := by simp; omega
  rw [hdd]
  clear hdd
  go_wp2_with fail
  refine (copyAcc_any a len cap evs _ HEL.out hl).mono ?_
  rintro r W0 ⟨v, rfl, hown, hb2⟩
  obtain ⟨ea, ec, rfl, hev⟩ := evRow_of_owns hown HK.out
  have HEV : Hid (0 < evs.length → ∃ g, ea = some ⟨g, 0, none⟩ ∧ EvRow W0 g evs) := hev
  have HB2 : Hid (Below w1.heap.size w1 W0) := hb2
  clear hown hev hb2 HEL
  go_wp2_with fail
  refine (newAuditor_any W0 (base := W0.heap.size) (Nat.le_refl _)).mono ?_
  rintro r w4 ⟨L0, rfl, hinv, hb4, hc0, hp0, hr0, _⟩
  have HS : Hid (Scr W0 L0.A evs 0 L0 w4) := Scr.start hinv hb4 hc0 hp0 hr0
  clear hinv hb4 hc0 hp0 hr0
  generalize hAA : L0.A = A at *
  clear hAA
  go_wp2
  go_loopw [6] (fun x W => ∃ (j : Nat) (L : Lay), j ≤ len ∧ x = .int .i64 j ∧ Hid (Scr W0 A evs j L W)) (fun x _ => len - (intOf x).toNat)
  case atStart => exact ⟨0, L0, Nat.zero_le _, rfl, HS⟩
  case round =>
    clear HS
    obtain ⟨j, L, hj, rfl, HS⟩ := hrel
    by_cases hjlt : j < len
    · obtain ⟨e, he⟩ : ∃ e, evs[j]? = some e := ⟨evs[j]'(by rw [HK.out]; exact hjlt), by simp⟩
      obtain ⟨eg, hea, hev⟩ := HEV.out (by rw [HK.out]; omega)
      subst hea
      obtain ⟨c0, c1, c2, c3, c4, c5, c6, c7⟩ := EvRow.at (EvRow.kept hev HS.out.below) he
      have hlg : eg < wr.heap.size := lt_of_cell c0
      have HE : Hid _ := he
      clear he hev
      go_wp2_with fail
      refine (doAccess_scr HS.out HE.out (by rw [HK.out]; exact hl)).mono ?_
      rintro r w5 ⟨rfl, L', HS'⟩
      have HS' : Hid (Scr W0 A evs (j + 1) L' w5) := HS'
      clear HS HE
      go_wp2
      go_roundw
      case rel => exact ⟨j + 1, L', by omega, by go_num, HS'⟩
      case measure => simp [intOf]; omega
    · have hjk : j = len := by omega
      subst hjk
      have HS1 : Hid (ScrSt W0.heap.size evs r0 (cnt (cfA evs r0) j) (cnt (chA evs r0) j) [] L wr) := HS.out.all (by rw [HK.out]; omega)
      have HA1 : Hid (L.A = A) := HS.out.A
      have HB5 : Hid (Below W0.heap.size W0 wr) := HS.out.below
      have HREP : Hid (∀ (L : Lay) (rel : Nat → Bool) (lc cv : Int) (W : World), ScrSt W0.heap.size evs rel lc cv [] L W → L.A = A → Calls Try.prog 16 #[pv A] W fun e w' => e = .returned (.agg #[.int .i64 0, .int .i64 lc, .int .i64 0, .int .i64 0, .int .i64 0, .int .i64 cv, .int .i64 0, .int .i64 0]) ∧ Below W.heap.size W w') := by
        intro L rel lc cv W h hA; subst hA; exact report_any W h.inv
      obtain ⟨lc, hlc⟩ : ∃ x : Int, (cnt (cfA evs r0) j : Int) = x := ⟨_, rfl⟩
      obtain ⟨cv, hcv⟩ : ∃ x : Int, (cnt (chA evs r0) j : Int) = x := ⟨_, rfl⟩
      rw [hlc, hcv] at HS1
      clear hlc hcv HS hjlt hj
      go_wp2_with fail
      refine (HREP.out L r0 lc cv wr HS1.out HA1.out).mono ?_
      rintro r w5 ⟨rfl, hb5⟩
      have HS1 : Hid (ScrSt W0.heap.size evs r0 lc cv [] L w5) := HS1.out.below hb5
      have HB5 : Hid (Below W0.heap.size W0 w5) := HB5.out.trans (hb5.mono HB5.out.size)
      clear hb5
      have HRO : Hid (L.own w5.heap.size = none) := HS1.out.inv.fresh (Nat.le_refl _)
      go_wp2
      have HS1 : Hid (ScrSt W0.heap.size evs r0 lc cv [] L (w5.alloc (.cells #[.int .i64 0, .int .i64 lc, .int .i64 0, .int .i64 0, .int .i64 0, .int .i64 cv, .int .i64 0, .int .i64 0] 39))) := HS1.out.below ((Below.refl _ _).alloc (Nat.le_refl _) _)
      have HRB : Hid ((w5.alloc (.cells #[.int .i64 0, .int .i64 lc, .int .i64 0, .int .i64 0, .int .i64 0, .int .i64 cv, .int .i64 0, .int .i64 0] 39)).heap[w5.heap.size]? = some (.cells #[.int .i64 0, .int .i64 lc, .int .i64 0, .int .i64 0, .int .i64 0, .int .i64 cv, .int .i64 0, .int .i64 0] 39)) := heap_at _ _ rfl
      have HB5 : Hid (Below W0.heap.size W0 (w5.alloc (.cells #[.int .i64 0, .int .i64 lc, .int .i64 0, .int .i64 0, .int .i64 0, .int .i64 cv, .int .i64 0, .int .i64 0] 39))) := HB5.out.alloc HB5.out.size _
      obtain ⟨W1, hW1⟩ : ∃ W1, w5.alloc (.cells #[.int .i64 0, .int .i64 lc, .int .i64 0, .int .i64 0, .int .i64 0, .int .i64 cv, .int .i64 0, .int .i64 0] 39) = W1 := ⟨_, rfl⟩
      rw [hW1] at HS1 HB5 HRB ⊢
      clear hW1
      generalize w5.heap.size = RB at *
      obtain ⟨w7, hrun, hown, hgrow⟩ := run_make_full (P := Try.prog) W1 W1.heap.size 33 3 i0 (.int .i64 0) 1 Try.underlying33 hi hz0 hz1 .i64 .i64 j (by rw [hz2]; omega) (by unfold maxLen; omega) (Nat.le_refl _)
      rw [hrun]
      simp only [Result.andThen]
      rw [Oper.upon_value]
      have HST : Hid (Fill w7 W1.heap.size j relF 0 ∧ Below W1.heap.size W1 w7) := by
        refine ⟨?_, (Below.refl _ _).grown hgrow (Nat.le_refl _) (by simp)⟩
        rcases hown.2 with ⟨e, _⟩ | ⟨g, cp, cur, e, _, hh, _, _, hs, _⟩
        · cases e
        · cases e; exact Fill.start hh hs
      clear hrun hown hgrow hi hz0 hz1 hz2
      go_wp2
      go_loopw [9] (fun x W => ∃ k : Nat, k ≤ j ∧ x = .int .i64 k ∧ Hid (Fill W W1.heap.size j relF k ∧ Below W1.heap.size W1 W)) (fun x _ => j - (intOf x).toNat)
      case atStart => exact ⟨0, Nat.zero_le _, rfl, HST⟩
      case round =>
        clear HST
        obtain ⟨k, hk, rfl, HF⟩ := hrel
        by_cases hlt : k < j
        · obtain ⟨cur, hh, hs, _⟩ := HF.out.1
          obtain ⟨v0, g1⟩ := cell_some_of_block hh (o := k) (by omega)
          have hf := frozen_of_block hh
          have hlw : W1.heap.size < wr.heap.size := lt_of_cell g1
          clear hh hs
          go_wp2
          go_roundw
          case rel => exact ⟨k + 1, by omega, by go_num, HF.out.1.store hlt, HF.out.2.setCell (Nat.le_refl _) _⟩
          case measure => simp [intOf]; omega
        · have hkl : k = j := by omega
          subst hkl
          obtain ⟨cur, hh, hs, _⟩ := HF.out.1
          obtain ⟨v0, g1⟩ := cell_some_of_block hh (o := i) (by omega)
          have hf := frozen_of_block hh
          have hlw : W1.heap.size < wr.heap.size := lt_of_cell g1
          have HRP : Hid (IntRow (wr.setCell ⟨W1.heap.size, i, none⟩ (.int .i64 k)) W1.heap.size ((List.range k).map fun j => if j = i then (k : Int) else relF j)) := HF.out.1.setRow i k
          have HBW : Hid (Below W1.heap.size W1 (wr.setCell ⟨W1.heap.size, i, none⟩ (.int .i64 k))) := HF.out.2.setCell (Nat.le_refl _) _
          have HRG : Hid (L.own W1.heap.size = none) := HS1.out.inv.fresh (Nat.le_refl _)
          have HR : Hid (R7 W0 A RB W1.heap.size evs ((List.range k).map fun j => if j = i then (k : Int) else relF j) r0 lc cv L (wr.setCell ⟨W1.heap.size, i, none⟩ (.int .i64 k))) := by
            refine ⟨HS1.out.below HBW.out, HA1.out, HB5.out.trans (HBW.out.mono HB5.out.size), ?_, HRP.out, by simpa using hlw, HRO.out, HRG.out⟩
            rw [HBW.out.block _ (Array.getElem?_eq_some_iff.1 HRB.out).1]; exact HRB.out
          have HRL : Hid (((List.range k).map fun j => if j = i then (k : Int) else relF j).length = k) := by show _ = _; simp
          have HRE : Hid (∀ (j : Nat) x, ((List.range k).map fun j => if j = i then (k : Int) else relF j)[j]? = some x → (x = -1 ↔ relX r0 i j = false)) := relX_row
          clear hh hs HF hlt hk HRP HBW HRG HRO HRB HS1 HA1 HB5 HREP
          generalize W1.heap.size = rg at *
          generalize ((List.range k).map fun j => if j = i then (k : Int) else relF j) = rps at *
          go_wp2_with fail
          refine (HR.out.release i (by rw [HK.out]; exact hil) (by rw [HK.out]; exact hl)).mono ?_
          rintro r w8 ⟨rfl, L8, HR8⟩
          have HR : Hid (R7 W0 A RB rg evs rps (relX r0 i) lc cv L8 w8) := HR8
          clear HR8 g1 hf hlw
          have HREP9 : Hid (∀ W, Below w8.heap.size w8 W → Calls Try.prog 16 #[pv A] W fun e w' => e = .returned (.agg #[.int .i64 0, .int .i64 lc, .int .i64 0, .int .i64 0, .int .i64 0, .int .i64 cv, .int .i64 0, .int .i64 0]) ∧ Below W.heap.size W w') := fun W hb => (HR.out.kept hb).rep
          have H23 : Hid (∀ W, Below w8.heap.size w8 W → Calls Try.prog 23 #[pv A, .slice ea k ec, .slice (some ⟨rg, 0, none⟩) k k, .int .i64 0] W fun r w' => r = .returned (.bool true) ∧ Below W.heap.size W w') := fun W hb => (HR.out.kept hb).mat HK.out hl HEV.out HRL.out HRE.out
          have HRB9 : Hid (∀ W, Below w8.heap.size w8 W → (W.cell? ⟨RB, 0, none⟩ = some (.int .i64 0) ∧ W.cell? ⟨RB, 1, none⟩ = some (.int .i64 lc) ∧ W.cell? ⟨RB, 2, none⟩ = some (.int .i64 0) ∧ W.cell? ⟨RB, 3, none⟩ = some (.int .i64 0) ∧ W.cell? ⟨RB, 4, none⟩ = some (.int .i64 0) ∧ W.cell? ⟨RB, 5, none⟩ = some (.int .i64 cv) ∧ W.cell? ⟨RB, 6, none⟩ = some (.int .i64 0) ∧ W.cell? ⟨RB, 7, none⟩ = some (.int .i64 0))) := by
            intro W hb
            have hblk := (HR.out.kept hb).rb
            exact ⟨cell_of_block hblk rfl, cell_of_block hblk rfl, cell_of_block hblk rfl, cell_of_block hblk rfl, cell_of_block hblk rfl, cell_of_block hblk rfl, cell_of_block hblk rfl, cell_of_block hblk rfl⟩
          have hrl : RB < w8.heap.size := lt_of_cell (HRB9.out w8 (Below.refl _ _)).1
          obtain ⟨g0, g1, g2, g3, g4, g5, g6, g7⟩ := HRB9.out w8 (Below.refl _ _)
          have hgd := guard39
          go_wp2
          go_region_held3 (fun W => W.cell? ⟨RB, 0, none⟩ = some (.int .i64 0) ∧ W.cell? ⟨RB, 1, none⟩ = some (.int .i64 lc) ∧ W.cell? ⟨RB, 2, none⟩ = some (.int .i64 0) ∧ W.cell? ⟨RB, 3, none⟩ = some (.int .i64 0) ∧ W.cell? ⟨RB, 4, none⟩ = some (.int .i64 0) ∧ W.cell? ⟨RB, 5, none⟩ = some (.int .i64 cv) ∧ W.cell? ⟨RB, 6, none⟩ = some (.int .i64 0) ∧ W.cell? ⟨RB, 7, none⟩ = some (.int .i64 0)) (first | assumption | go_keep)
            (first
              | (go_at_call 16; refine (HREP9.out _ ?_).mono ?_; exact (Below.refl _ _).drew; rintro r w9 ⟨rfl, hb10⟩; have hb : Below w8.heap.size w8 w9 := (Below.refl _ _).drew.trans hb10; clear hb10; have hS := HRB9.out w9 hb)
              | (go_at_call 23; refine (H23.out _ ?_).mono ?_; exact hb; rintro r w10 ⟨rfl, hb11⟩; have hb2 : Below w8.heap.size w8 w10 := hb.trans (hb11.mono hb.size); clear hb11; have hS3 := HRB9.out w10 hb2))
          have HR : Hid (R7 W0 A RB rg evs rps (relX r0 i) lc cv L8 w10) := HR.out.kept hb2
          clear hS hS3 hb hb2 g0 g1 g2 g3 g4 g5 g6 g7 hrl hgd HREP9 H23 HRB9
          go_wp2_with fail
          refine (HR.out.release i (by rw [HK.out]; exact hil) (by rw [HK.out]; exact hl)).mono ?_
          rintro r w11 ⟨rfl, L9, HR9⟩
          have HR : Hid (R7 W0 A RB rg evs rps (relX r0 i) lc cv L9 w11) := by rw [relX_twice] at HR9; exact HR9
          clear HR9
          have HREP9 : Hid (∀ W, Below w11.heap.size w11 W → Calls Try.prog 16 #[pv A] W fun e w' => e = .returned (.agg #[.int .i64 0, .int .i64 lc, .int .i64 0, .int .i64 0, .int .i64 0, .int .i64 cv, .int .i64 0, .int .i64 0]) ∧ Below W.heap.size W w') := fun W hb => (HR.out.kept hb).rep
          have H23 : Hid (∀ W, Below w11.heap.size w11 W → Calls Try.prog 23 #[pv A, .slice ea k ec, .slice (some ⟨rg, 0, none⟩) k k, .int .i64 0] W fun r w' => r = .returned (.bool true) ∧ Below W.heap.size W w') := fun W hb => (HR.out.kept hb).mat HK.out hl HEV.out HRL.out HRE.out
          have HRB9 : Hid (∀ W, Below w11.heap.size w11 W → (W.cell? ⟨RB, 0, none⟩ = some (.int .i64 0) ∧ W.cell? ⟨RB, 1, none⟩ = some (.int .i64 lc) ∧ W.cell? ⟨RB, 2, none⟩ = some (.int .i64 0) ∧ W.cell? ⟨RB, 3, none⟩ = some (.int .i64 0) ∧ W.cell? ⟨RB, 4, none⟩ = some (.int .i64 0) ∧ W.cell? ⟨RB, 5, none⟩ = some (.int .i64 cv) ∧ W.cell? ⟨RB, 6, none⟩ = some (.int .i64 0) ∧ W.cell? ⟨RB, 7, none⟩ = some (.int .i64 0))) := by
            intro W hb
            have hblk := (HR.out.kept hb).rb
            exact ⟨cell_of_block hblk rfl, cell_of_block hblk rfl, cell_of_block hblk rfl, cell_of_block hblk rfl, cell_of_block hblk rfl, cell_of_block hblk rfl, cell_of_block hblk rfl, cell_of_block hblk rfl⟩
          have hrl : RB < w11.heap.size := lt_of_cell (HRB9.out w11 (Below.refl _ _)).1
          obtain ⟨g0, g1, g2, g3, g4, g5, g6, g7⟩ := HRB9.out w11 (Below.refl _ _)
          have hgd := guard39
          go_wp2
          go_region_held3 (fun W => W.cell? ⟨RB, 0, none⟩ = some (.int .i64 0) ∧ W.cell? ⟨RB, 1, none⟩ = some (.int .i64 lc) ∧ W.cell? ⟨RB, 2, none⟩ = some (.int .i64 0) ∧ W.cell? ⟨RB, 3, none⟩ = some (.int .i64 0) ∧ W.cell? ⟨RB, 4, none⟩ = some (.int .i64 0) ∧ W.cell? ⟨RB, 5, none⟩ = some (.int .i64 cv) ∧ W.cell? ⟨RB, 6, none⟩ = some (.int .i64 0) ∧ W.cell? ⟨RB, 7, none⟩ = some (.int .i64 0)) (first | assumption | go_keep)
            (first
              | (go_at_call 16; refine (HREP9.out _ ?_).mono ?_; exact (Below.refl _ _).drew; rintro r w12 ⟨rfl, hb10⟩; have hb : Below w11.heap.size w11 w12 := (Below.refl _ _).drew.trans hb10; clear hb10; have hS := HRB9.out w12 hb)
              | (go_at_call 23; refine (H23.out _ ?_).mono ?_; exact hb; rintro r w13 ⟨rfl, hb11⟩; have hb2 : Below w11.heap.size w11 w13 := hb.trans (hb11.mono hb.size); clear hb11; have hS3 := HRB9.out w13 hb2))
          go_wp2
          go_ret
          exact ⟨rfl, HB2.out.trans (((HR.out.below).trans (hb2.mono HR.out.below.size)).mono HB2.out.size)⟩
end Go.Proofs.Qxb6604372a
