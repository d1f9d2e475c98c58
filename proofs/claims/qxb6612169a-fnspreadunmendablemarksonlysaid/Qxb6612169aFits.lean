import Derived.Test.Qxb6612169aCount
namespace Go.Proofs.Qxb6612169a
open Go.RowKit

/-- What zzSpreadFits has checked, as far as the law needs it. -/
structure FitsP (bs : List Bool) (zs : List Int) (broken k count : Int) (ms : List Int) (ss : List Bool) : Prop where
  b0 : 0 ≤ broken
  b1 : broken < bs.length
  sorted : ∀ i, i + 1 < zs.length → zs.getD i 0 < zs.getD (i + 1) 0
  k0 : 0 ≤ k
  k1 : k ≤ ms.length
  mem : ∀ i, i < ms.length → 0 ≤ ms.getD i 0 ∧ ms.getD i 0 < ss.length
  cnt : k + 2 ≤ count

def FitsPost (bs : List Bool) (zs : List Int) (broken k count : Int) (ms : List Int) (ss : List Bool) (w : World) (e : Ending) (w' : World) : Prop :=
  ∃ x, e = .returned (.bool x) ∧ (x = true → FitsP bs zs broken k count ms ss) ∧ Below w.heap.size w w'
theorem fits_no {bs : List Bool} {zs : List Int} {broken k count : Int} {ms : List Int} {ss : List Bool} {w w' : World} (h : Below w.heap.size w w') : FitsPost bs zs broken k count ms ss w (.returned (.bool false)) w' := ⟨false, rfl, (fun h => nomatch h), h⟩

def SortedTo (zs : List Int) (k : Nat) : Prop := ∀ i, i + 1 < k → zs.getD i 0 < zs.getD (i + 1) 0
def MemTo (ms : List Int) (n k : Nat) : Prop := ∀ i, i < k → 0 ≤ ms.getD i 0 ∧ ms.getD i 0 < n

/-- Block B holds n bools. -/
def Bools (w : World) (B n : Nat) : Prop := ∃ xs : List Bool, xs.length = n ∧ Blk w B (BV xs).toArray 4

set_option maxRecDepth 100000 in
set_option maxHeartbeats 4000000 in
/-- zzSpreadFits (function 5). -/
theorem fits_any (s0 s1 s5 s6 : Option Addr) (c0 c1 c5 c6 : Nat) (bs : List Bool) (zs : List Int) (broken k count : Int) (ms : List Int) (ss : List Bool) (w : World)
    (h1 : zs.length ≤ 65536) (h5 : ms.length ≤ 65536) (h6 : ss.length ≤ 65536)
    (hR0 : Row w s0 (BV bs)) (hR1 : Row w s1 (IV zs)) (hR5 : Row w s5 (IV ms)) (hR6 : Row w s6 (BV ss)) :
    Calls Try.prog 5 #[.slice s0 bs.length c0, .slice s1 zs.length c1, .int .i64 broken, .int .i64 k, .int .i64 count, .slice s5 ms.length c5, .slice s6 ss.length c6] w (FitsPost bs zs broken k count ms ss w) := by
  have H0 := hide hR0
  have H1 := hide hR1
  have H5 := hide hR5
  have H6 := hide hR6
  clear hR0 hR1 hR5 hR6
  have hmk := run_make_row' (P := Try.prog) 22 4 (.bool false) 1 Try.underlying22 info4 rfl .i64 .i64 ss.length (by omega) (by omega)
  by_cases hb0 : broken < 0
  · go_enter Try.func5, Try.ntmps5
    go_wp2
    go_ret
    exact fits_no (Below.refl _ _)
  by_cases hb1 : (bs.length : Int) ≤ broken
  · go_enter Try.func5, Try.ntmps5
    go_wp2
    go_ret
    exact fits_no (Below.refl _ _)
  obtain ⟨bn, rfl⟩ := Int.eq_ofNat_of_zero_le (show 0 ≤ broken by omega)
  have hbn : bn < bs.length := by omega
  obtain ⟨b, off, e, hb, hc⟩ := H0.out bn (by rw [BV_len]; exact hbn)
  subst e
  have hcb := hc bn _ (BV_get bs bn hbn)
  have Hc0 := hide hc
  clear hc H0
  generalize bs.getD bn false = xb at hcb
  cases xb
  · go_enter Try.func5, Try.ntmps5
    go_wp2
    go_loop [16, 17] (fun i a => ∃ j : Nat, j ≤ zs.length ∧ i = .int .i64 j ∧ Hid (SortedTo zs j)) (fun i _ => zs.length - (intOf i).toNat)
    case atStart => exact ⟨0, Nat.zero_le _, rfl, fun i hi => by omega⟩
    case round =>
      obtain ⟨j, hj, rfl, HS⟩ := hrel
      by_cases hlt : j < zs.length
      · obtain ⟨b1, off1, e, hb1', hc1⟩ := H1.out j (by rw [IV_len]; exact hlt)
        subst e
        have hck := hc1 j _ (IV_get zs j hlt)
        have Hc1 := hide hc1
        clear hc1
        generalize hy : zs.getD j 0 = y at hck
        have Hy := hide hy
        clear hy
        by_cases hy0 : y < 0
        · go_wp2
          go_ret
          exact fits_no (Below.refl _ _)
        by_cases hy1 : (bs.length : Int) ≤ y
        · go_wp2
          go_ret
          exact fits_no (Below.refl _ _)
        obtain ⟨yn, rfl⟩ := Int.eq_ofNat_of_zero_le (show 0 ≤ y by omega)
        have hyn : yn < bs.length := by omega
        have hcy := Hc0.out yn _ (BV_get bs yn hyn)
        generalize bs.getD yn false = xy at hcy
        cases xy
        · go_wp2
          go_ret
          exact fits_no (Below.refl _ _)
        · by_cases hj0 : j = 0
          · subst hj0
            rw [Nat.add_zero] at hck
            go_wp2
            exact ⟨⟨1, by omega, by go_num, fun i hi => by omega⟩, by simp [intOf]; omega⟩
          · have hcp := Hc1.out (j - 1) _ (IV_get zs (j - 1) (by omega))
            generalize hz : zs.getD (j - 1) 0 = z at hcp
            have Hz := hide hz
            clear hz
            have ej : ((j : Int) - 1) = ((j - 1 : Nat) : Int) := by omega
            by_cases hzy : (yn : Int) ≤ z
            · go_wp2
              go_ret
              exact fits_no (Below.refl _ _)
            · go_wp2
              refine ⟨⟨j + 1, by omega, by go_num, fun i hi => ?_⟩, by simp [intOf]; omega⟩
              by_cases hij : i + 1 < j
              · exact HS.out i hij
              · have ei : i = j - 1 := by omega
                subst ei
                rw [Hz.out, show j - 1 + 1 = j from by omega, Hy.out]
                omega
      · obtain rfl : j = zs.length := by omega
        by_cases hk0 : k < 0
        · go_wp2
          go_ret
          exact fits_no (Below.refl _ _)
        by_cases hk1 : (ms.length : Int) < k
        · go_wp2
          go_ret
          exact fits_no (Below.refl _ _)
        go_wp2
        have hM : Bools (w.alloc (.cells (madeCells #[(.bool false)] ss.length) 4)) w.heap.size ss.length := by
          refine ⟨List.replicate ss.length false, by simp, ?_⟩
          rw [← show madeCells #[(.bool false)] ss.length = (BV (List.replicate ss.length false)).toArray from by
            apply Array.ext
            · simp [size_madeCells, BV]
            · intro i h1 h2
              simp [madeCells, BV, Nat.mod_one]]
          exact Blk.alloc_new _ _ _
        have hB0 : Below w.heap.size w (w.alloc (.cells (madeCells #[(.bool false)] ss.length) 4)) := (Below.refl _ _).alloc (Nat.le_refl _) _
        go_loopw [19, 20, 21] (fun ic i m wr => ∃ j c : Nat, c ≤ j ∧ j ≤ ms.length ∧ i = .int .i64 j ∧ ic = .int .i64 c ∧ Hid (MemTo ms ss.length j) ∧ Hid (Bools wr w.heap.size ss.length) ∧ Hid (Below w.heap.size w wr)) (fun _ i _ _ => ms.length - (intOf i).toNat)
        case atStart => exact ⟨0, 0, Nat.le_refl _, Nat.zero_le _, rfl, rfl, (fun i hi => by omega), hM, hB0⟩
        case round =>
          obtain ⟨j, c, hcj, hj2, rfl, rfl, HMem, HM, HB⟩ := hrel
          clear hM hB0
          by_cases hlt : j < ms.length
          · obtain ⟨b5, off5, e, hb5, hc5⟩ := H5.out.below HB.out j (by rw [IV_len]; exact hlt)
            subst e
            have hck := hc5 j _ (IV_get ms j hlt)
            clear hc5
            generalize hy : ms.getD j 0 = y at hck
            have Hy := hide hy
            clear hy
            by_cases hy0 : y < 0
            · go_wp2
              go_ret
              exact fits_no HB.out
            by_cases hy1 : (ss.length : Int) ≤ y
            · go_wp2
              go_ret
              exact fits_no HB.out
            obtain ⟨yn, rfl⟩ := Int.eq_ofNat_of_zero_le (show 0 ≤ y by omega)
            have hyn : yn < ss.length := by omega
            obtain ⟨xs, hxl, hblk⟩ := HM.out
            have hcs := hblk.cell yn
            rw [List.getElem?_toArray, BV_get xs yn (by omega)] at hcs
            generalize xs.getD yn false = xv at hcs
            have Hblk := hide hblk
            clear hblk
            cases xv
            · have hfs := Hblk.out.frozen yn
              obtain ⟨b6, off6, e, hb6, hc6⟩ := H6.out.below HB.out yn (by rw [BV_len]; exact hyn)
              subst e
              have hc6 := hc6 yn _ (BV_get ss yn hyn)
              generalize ss.getD yn false = sv at hc6
              have hn6 : b6 ≠ w.heap.size := by
                intro e
                subst e
                have := (H6.out yn (by rw [BV_len]; exact hyn))
                obtain ⟨b7, off7, e, hb7, _⟩ := this
                cases e
                omega
              have HS2 : Hid (Bools (wr.setCell ⟨w.heap.size, yn, none⟩ (.bool true)) w.heap.size ss.length) := by
                refine ⟨xs.set yn true, by simpa using hxl, ?_⟩
                have := Hblk.out.set yn (.bool true)
                rw [List.setIfInBounds_toArray] at this
                simpa [BV] using this
              have HB2 : Hid (Below w.heap.size w (wr.setCell ⟨w.heap.size, yn, none⟩ (.bool true))) := HB.out.setCell (p := ⟨w.heap.size, yn, none⟩) (Nat.le_refl _) (.bool true)
              have HMem2 : Hid (MemTo ms ss.length (j + 1)) := by
                intro i hi
                by_cases hij : i < j
                · exact HMem.out i hij
                · have ei : i = j := by omega
                  subst ei
                  rw [Hy.out]
                  omega
              cases sv
              · go_wp2
                exact ⟨⟨j + 1, c, by omega, by omega, by go_num, rfl, HMem2.out, HS2.out, HB2.out⟩, by simp [intOf]; omega⟩
              · go_wp2
                exact ⟨⟨j + 1, c + 1, by omega, by omega, by go_num, by go_num, HMem2.out, HS2.out, HB2.out⟩, by simp [intOf]; omega⟩
            · go_wp2
              go_ret
              exact fits_no HB.out
          · obtain rfl : j = ms.length := by omega
            by_cases hc : count = c
            · subst hc
              by_cases hck : k + 2 ≤ c
              · go_wp2
                go_ret
                exact ⟨_, rfl, fun _ => ⟨by omega, by omega, HS.out, by omega, by omega, HMem.out, by omega⟩, HB.out⟩
              · go_wp2
                go_ret
                exact fits_no HB.out
            · go_wp2
              go_ret
              exact fits_no HB.out
  · go_enter Try.func5, Try.ntmps5
    go_wp2
    go_ret
    exact fits_no (Below.refl _ _)
end Go.Proofs.Qxb6612169a
