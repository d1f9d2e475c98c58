import Derived.Test.Qxb6612169aSpread
namespace Go.Proofs.Qxb6612169a
open Go.RowKit

theorem getNeeded_any (R : Nat) (a : Option Addr) (n c : Nat) (w : World) (h : w.cell? ⟨R, 1, none⟩ = some (.slice a n c)) :
    Calls Try.prog 12 #[.pointer (some ⟨R, 0, none⟩)] w fun e w' => e = .returned (.slice a n c) ∧ w' = w := by
  go_enter Try.func12, Try.ntmps12
  go_wp2
  go_ret
  exact ⟨rfl, rfl⟩
theorem getAhead_any (R : Nat) (a : Option Addr) (n c : Nat) (w : World) (h : w.cell? ⟨R, 2, none⟩ = some (.slice a n c)) :
    Calls Try.prog 14 #[.pointer (some ⟨R, 0, none⟩)] w fun e w' => e = .returned (.slice a n c) ∧ w' = w := by
  go_enter Try.func14, Try.ntmps14
  go_wp2
  go_ret
  exact ⟨rfl, rfl⟩
theorem getSelected_any (R : Nat) (a : Option Addr) (n c : Nat) (w : World) (h : w.cell? ⟨R, 8, none⟩ = some (.slice a n c)) :
    Calls Try.prog 15 #[.pointer (some ⟨R, 0, none⟩)] w fun e w' => e = .returned (.slice a n c) ∧ w' = w := by
  go_enter Try.func15, Try.ntmps15
  go_wp2
  go_ret
  exact ⟨rfl, rfl⟩

theorem zzspread_of (R bn : Nat) (w : World) (Q : World → Prop) (h : Calls Try.prog 19 #[.pointer (some ⟨R, 0, none⟩), .int .i64 bn] w fun e w' => e = .returned (.tuple #[]) ∧ Q w') :
    Calls Try.prog 10 #[.pointer (some ⟨R, 0, none⟩), .int .i64 bn] w fun e w' => e = .returned (.tuple #[]) ∧ Q w' := by
  have H := hide h
  clear h
  go_enter Try.func10, Try.ntmps10
  go_wp2_with fail
  refine H.out.mono ?_
  rintro e w1 ⟨rfl, hq⟩
  have Hq := hide hq
  clear hq
  go_wp2
  go_end0
  exact ⟨rfl, Hq.out⟩

theorem fresh_some {w : World} {B : Nat} {sa : Option Addr} {bs : List Bool} (h : Fresh w B sa (BV bs) 4) (hb : 0 < bs.length) : sa = some ⟨B, 0, none⟩ ∧ Blk w B (BV bs).toArray 4 := by
  rcases h with ⟨_, e⟩ | h
  · have := congrArg List.length e
    rw [BV_len] at this
    simp at this
    simp [this] at hb
  · exact h

theorem Fresh.keep {w w' : World} {B : Nat} {sa : Option Addr} {vs : List Value} {t : TypeId} (h : Fresh w B sa vs t) (hB : Below w.heap.size w w') : Fresh w' B sa vs t := by
  rcases h with h | ⟨e, h⟩
  · exact .inl h
  · exact .inr ⟨e, h.below hB h.lt⟩
theorem Blk.keep {w w' : World} {b : Nat} {arr : Array Value} {t : TypeId} (h : Blk w b arr t) (hB : Below w.heap.size w w') : Blk w' b arr t := h.below hB h.lt

def LawPost (w : World) (e : Ending) (w' : World) : Prop := e = .returned (.bool true) ∧ Below w.heap.size w w'

set_option maxRecDepth 100000 in
set_option maxHeartbeats 2000000 in
/-- The law (function 3). -/
theorem law_any (s0 s1 s5 s6 : Option Addr) (c0 c1 c5 c6 : Nat) (bs : List Bool) (zs : List Int) (broken k count : Int) (ms : List Int) (ss : List Bool) (w : World)
    (h0 : bs.length ≤ maxLen) (h1 : zs.length ≤ maxLen) (h5 : ms.length ≤ maxLen) (h6 : ss.length ≤ maxLen)
    (hR0 : Row w s0 (BV bs)) (hR1 : Row w s1 (IV zs)) (hR5 : Row w s5 (IV ms)) (hR6 : Row w s6 (BV ss)) :
    Calls Try.prog 3 #[.slice s0 bs.length c0, .slice s1 zs.length c1, .int .i64 broken, .int .i64 k, .int .i64 count, .slice s5 ms.length c5, .slice s6 ss.length c6] w (LawPost w) := by
  have H0 := hide hR0
  have H1 := hide hR1
  have H5 := hide hR5
  have H6 := hide hR6
  clear hR0 hR1 hR5 hR6
  go_enter Try.func3, Try.ntmps3
  go_wp2_with fail
  refine (bytes_any _ _ _ _ _ _ _ _ _ _ _ _ _ _ _ w h0 h1 h5 h6).mono ?_
  rintro e w1 ⟨x, rfl, hx, hw⟩
  rw [hw]
  clear hw w1
  cases x
  · go_wp2
    go_ret
    exact ⟨rfl, Below.refl _ _⟩
  obtain ⟨l0, l1, l5, l6⟩ := hx rfl
  clear hx h0 h1 h5 h6
  by_cases hsum : (1048576 : Int) < (bs.length : Int) + 8 * (zs.length : Int) + 8 * (ms.length : Int) + (ss.length : Int)
  · go_wp2
    go_ret
    exact ⟨rfl, Below.refl _ _⟩
  by_cases t0 : (65536 : Int) < (bs.length : Int)
  · go_wp2
    go_ret
    exact ⟨rfl, Below.refl _ _⟩
  by_cases t1 : (65536 : Int) < (zs.length : Int)
  · go_wp2
    go_ret
    exact ⟨rfl, Below.refl _ _⟩
  by_cases t5 : (65536 : Int) < (ms.length : Int)
  · go_wp2
    go_ret
    exact ⟨rfl, Below.refl _ _⟩
  by_cases t6 : (65536 : Int) < (ss.length : Int)
  · go_wp2
    go_ret
    exact ⟨rfl, Below.refl _ _⟩
  go_wp2_with fail
  refine (fits_any s0 s1 s5 s6 c0 c1 c5 c6 bs zs broken k count ms ss w (by omega) (by omega) (by omega) H0.out H1.out H5.out H6.out).mono ?_
  rintro e wF ⟨x, rfl, hx, hBF⟩
  have HBF := hide hBF
  cases x
  · clear hBF
    go_wp2
    go_ret
    exact ⟨rfl, HBF.out⟩
  have hf := hx rfl
  obtain ⟨bn, rfl⟩ := Int.eq_ofNat_of_zero_le hf.b0
  have hbn : bn < bs.length := by have := hf.b1; omega
  have Hf := hide hf
  clear hx hf
  have H0 := hide (H0.out.below hBF)
  have H1 := hide (H1.out.below hBF)
  have H5 := hide (H5.out.below hBF)
  have H6 := hide (H6.out.below hBF)
  clear hBF
  go_wp2_with fail
  refine (cloneB_any s0 c0 bs wF (by omega) H0.out).mono ?_
  rintro e w1 ⟨sN, rfl, hB1, hF0⟩
  obtain ⟨esN, hK0⟩ := fresh_some hF0 (by omega)
  subst esN
  have HB1 := hide hB1
  have HF0 := hide hK0
  have H1 := hide (H1.out.below hB1)
  have H5 := hide (H5.out.below hB1)
  have H6 := hide (H6.out.below hB1)
  clear hB1 hF0 hK0
  go_wp2_with fail
  refine (cloneI_any s1 c1 zs w1 (by omega) H1.out).mono ?_
  rintro e w2 ⟨sA, rfl, hB2, hF1⟩
  have HB2 := hide hB2
  have HF1 := hide hF1
  have H5 := hide (H5.out.below hB2)
  have H6 := hide (H6.out.below hB2)
  clear hB2 hF1
  go_wp2_with fail
  refine (cloneI_any s5 c5 ms w2 (by omega) H5.out).mono ?_
  rintro e w3 ⟨sM, rfl, hB3, hF5⟩
  have HB3 := hide hB3
  have HF5 := hide hF5
  have H6 := hide (H6.out.below hB3)
  clear hB3 hF5
  go_wp2_with fail
  refine (cloneB_any s6 c6 ss w3 (by omega) H6.out).mono ?_
  rintro e w4 ⟨sS, rfl, hB4, hF6⟩
  have n0 : wF.heap.size < w1.heap.size := HF0.out.lt
  have n1 := HB2.out.size
  have n2 := HB3.out.size
  have n3 := hB4.size
  have q0 := hide (((HF0.out.keep HB2.out).keep HB3.out).keep hB4)
  have q1 := hide ((HF1.out.keep HB3.out).keep hB4)
  have q5 := hide (HF5.out.keep hB4)
  have q6 := hide hF6
  have QB := hide (HBF.out.trans ((HB1.out.trans ((HB2.out.mono (by omega)).trans ((HB3.out.mono (by omega)).trans (hB4.mono (by omega))))).mono HBF.out.size))
  clear HF0 HF1 HF5 hF6 HB1 HB2 HB3 hB4 H0 H1 H5 H6
  generalize hnb : wF.heap.size = nb at n0 q0 QB ⊢
  generalize w1.heap.size = ab at n0 n1 q1 ⊢
  generalize w2.heap.size = mb at n1 n2 q5 ⊢
  generalize w3.heap.size = sb at n2 n3 q6 ⊢
  have hnw : w.heap.size ≤ nb := by rw [← hnb]; exact HBF.out.size
  clear hnb HBF
  go_wp2_with fail
  refine (cloneB_any (some ⟨nb, 0, none⟩) bs.length bs w4 (by omega) (Fresh.row (.inr ⟨rfl, q0.out⟩))).mono ?_
  rintro e w5 ⟨sW, rfl, hB5, hF7⟩
  obtain ⟨esW, hK7⟩ := fresh_some hF7 (by omega)
  subst esW
  clear hF7
  have n5 : w4.heap.size < w5.heap.size := hK7.lt
  have hB6 := hB5.setCell (p := ⟨w4.heap.size, bn, none⟩) (Nat.le_refl _) (.bool true)
  have p0 := hide (q0.out.keep hB6)
  have p1 := hide (q1.out.keep hB6)
  have p5 := hide (q5.out.keep hB6)
  have p6 := hide (q6.out.keep hB6)
  have PB := hide (QB.out.trans (hB6.mono (by omega)))
  clear q0 q1 q5 q6 QB hB5 hB6
  have f7 : w5.cell? ⟨w4.heap.size, bn, none⟩ = some (.bool (bs.getD bn false)) := by rw [hK7.cell bn, List.getElem?_toArray, BV_get bs bn hbn]
  have g7 := hK7.frozen bn
  have hF8 : Blk (w5.setCell ⟨w4.heap.size, bn, none⟩ (.bool true)) w4.heap.size (BV (bs.set bn true)).toArray 4 := by
    have := hK7.set bn (.bool true)
    rw [List.setIfInBounds_toArray] at this
    simpa [BV] using this
  have HF8 := hide hF8
  have n6 : (w5.setCell ⟨w4.heap.size, bn, none⟩ (.bool true)).heap.size = w5.heap.size := by simp [World.setCell]
  clear hK7 hF8
  have Hn6 := hide n6
  clear n6
  go_wp2_with fail
  generalize w5.setCell ⟨w4.heap.size, bn, none⟩ (.bool true) = w6 at p0 p1 p5 p6 PB HF8 Hn6 ⊢
  have n6 : w4.heap.size < w6.heap.size := by rw [Hn6.out]; exact n5
  clear f7 g7 Hn6 n5
  generalize w4.heap.size = wb at n3 n6 HF8 ⊢
  refine (insert_any sA zs.length zs bn w6 (by omega) p1.out.row).mono ?_
  rintro e w7 ⟨rfl, hB7, hF9⟩
  have q0 := hide (p0.out.keep hB7)
  have q1 := hide (p1.out.keep hB7)
  have q5 := hide (p5.out.keep hB7)
  have q6 := hide (p6.out.keep hB7)
  have q8 := hide (HF8.out.keep hB7)
  have q9 := hide hF9
  have n7 : w6.heap.size < w7.heap.size := hF9.lt
  have QB := hide (PB.out.trans (hB7.mono (by omega)))
  clear p0 p1 p5 p6 PB HF8 hB7 hF9
  generalize w6.heap.size = xb at n6 n7 q9 ⊢
  go_wp2_with fail
  refine (cloneB_any sS ss.length ss w7 (by omega) q6.out.row).mono ?_
  rintro e w8 ⟨sX, rfl, hB8, hF10⟩
  have p0 := hide (q0.out.keep hB8)
  have p1 := hide (q1.out.keep hB8)
  have p5 := hide (q5.out.keep hB8)
  have p6 := hide (q6.out.keep hB8)
  have p8 := hide (q8.out.keep hB8)
  have p9 := hide (q9.out.keep hB8)
  have p10 := hide hF10
  have n8 := hB8.size
  have PB := hide (QB.out.trans (hB8.mono (by omega)))
  clear q0 q1 q5 q6 q8 q9 QB hB8 hF10
  generalize w7.heap.size = yb at n7 n8 p10 ⊢
  go_wp2_with fail
  refine (build_any (some ⟨nb, 0, none⟩) sA sM sS bs.length zs.length ms.length bn bs.length zs.length ms.length ss.length k count ss w8 (by omega) (by omega) hbn p6.out.row).mono ?_
  rintro e w9 ⟨R, rfl, hBu⟩
  obtain ⟨hRS, hB9⟩ : w8.heap.size + 4 ≤ R ∧ Below w8.heap.size w8 w9 := by
    obtain ⟨S, v4, s1, n1, c1, hS4, hSR, hL, _⟩ := hBu
    exact ⟨by omega, hL.1⟩
  have q0 := hide (p0.out.keep hB9)
  have q1 := hide (p1.out.keep hB9)
  have q5 := hide (p5.out.keep hB9)
  have q6 := hide (p6.out.keep hB9)
  have q8 := hide (p8.out.keep hB9)
  have q9 := hide (p9.out.keep hB9)
  have q10 := hide (p10.out.keep hB9)
  have QB := hide (PB.out.trans (hB9.mono (by omega)))
  have HBu := hide hBu
  have n9 := hB9.size
  clear p0 p1 p5 p6 p8 p9 p10 PB hBu hB9
  go_wp2_with fail
  refine (zzspread_of R bn w9 _ (spread_any R nb ab mb sb bn bs zs ms ss k count sA sM sS w8 w9 HBu.out q0.out q1.out q5.out q6.out (by omega) (by omega) (by omega) (by omega) (by omega) (by omega) (by omega) (by omega) Hf.out)).mono ?_
  rintro e wA ⟨rfl, s, v3, v4, v5, hMk⟩
  have m8 := (hMk.keeps q8.out (by omega) (by omega))
  have m9 := (hMk.keeps q9.out (by omega) (by omega))
  have m6 := (hMk.fresh q6.out (by omega) (by omega)).row
  have m10 := (hMk.fresh q10.out (by omega) (by omega)).row
  have hBA := QB.out.trans (hMk.1 w.heap.size (by omega) (by omega) (by have := QB.out.size; omega))
  obtain ⟨_, _, m0, ab', c', mR, m1⟩ := hMk
  have f1 : wA.cell? ⟨R, 1, none⟩ = some (.slice (some ⟨nb, 0, none⟩) bs.length bs.length) := (mR.cell 1).trans rfl
  have f2 : wA.cell? ⟨R, 2, none⟩ = some (.slice (some ⟨ab', 0, none⟩) (zs.length + 1) c') := (mR.cell 2).trans rfl
  have f8 : wA.cell? ⟨R, 8, none⟩ = some (.slice sS ss.length ss.length) := (mR.cell 8).trans rfl
  have M0 := hide (Fresh.row (.inr ⟨rfl, m0⟩) : Row wA (some ⟨nb, 0, none⟩) (BV (bs.set bn true)))
  have M8 := hide (Fresh.row (.inr ⟨rfl, m8⟩) : Row wA (some ⟨wb, 0, none⟩) (BV (bs.set bn true)))
  have M9 := hide (Fresh.row (.inr ⟨rfl, m9⟩) : Row wA (some ⟨xb, 0, none⟩) (IV (ins zs bn)))
  have M1 := hide m1
  have M6 := hide m6
  have M10 := hide m10
  have HBA := hide hBA
  clear m0 m1 m6 m8 m9 m10 hBA mR q0 q1 q5 q6 q8 q9 q10 QB HBu
  have eB := fun (wx : World) (ha : Row wx (some ⟨nb, 0, none⟩) (BV (bs.set bn true))) (hb : Row wx (some ⟨wb, 0, none⟩) (BV (bs.set bn true))) => eqB_same (some ⟨nb, 0, none⟩) (some ⟨wb, 0, none⟩) bs.length bs.length (bs.set bn true) wx (by rw [List.length_set]; omega) ha hb
  rw [List.length_set] at eB
  have eI := fun (wx : World) (ha : Row wx (some ⟨ab', 0, none⟩) (IV (ins zs bn))) (hb : Row wx (some ⟨xb, 0, none⟩) (IV (ins zs bn))) => eqI_same (some ⟨ab', 0, none⟩) (some ⟨xb, 0, none⟩) c' (zs.length + 1) (ins zs bn) wx (by rw [ins_len]; omega) ha hb
  rw [ins_len] at eI
  have EB := hide eB
  have EI := hide eI
  clear eB eI
  go_wp2_with fail
  refine (getNeeded_any R _ _ _ wA f1).mono ?_
  rintro e w' ⟨rfl, hw⟩
  rw [hw]
  clear hw w'
  go_wp2_with fail
  refine (EB.out wA M0.out M8.out).mono ?_
  rintro e w' ⟨rfl, q, hw⟩
  rw [hw]
  clear hw w'
  go_wp2_with fail
  refine (getAhead_any R _ _ _ (wA.drewN q) f2).mono ?_
  rintro e w' ⟨rfl, hw⟩
  rw [hw]
  clear hw w'
  go_wp2_with fail
  refine (EI.out (wA.drewN q) M1.out M9.out).mono ?_
  rintro e w' ⟨rfl, q', hw⟩
  rw [hw]
  clear hw w'
  go_wp2_with fail
  refine (getSelected_any R _ _ _ (wA.drewN (q + q')) f8).mono ?_
  rintro e w' ⟨rfl, hw⟩
  rw [hw]
  clear hw w'
  go_wp2_with fail
  refine (eqB_same sS sX ss.length ss.length ss (wA.drewN (q + q')) (by omega) M6.out M10.out).mono ?_
  rintro e w' ⟨rfl, q2, hw⟩
  rw [hw]
  clear hw w'
  go_wp2
  go_ret
  exact ⟨rfl, below_drewN HBA.out _⟩
end Go.Proofs.Qxb6612169a
