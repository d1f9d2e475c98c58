import Derived.Test.Qxb6612169aNew
namespace Go.Proofs.Qxb6612169a
open Go.RowKit

/-- What the rows hold of the broken constraint when they are filled. -/
def Laid (w0 w' : World) (H bn : Nat) (tm : Array Value) : Prop :=
  Below H w0 w' ∧ H + 4 ≤ w'.heap.size ∧ ∃ t aT aA aS, H + 4 ≤ t ∧ Blk w' H aT 37 ∧ Blk w' (H + 1) aA 37 ∧ Blk w' (H + 3) aS 21 ∧
    aS[bn]? = some (.int .i32 (bn : Int)) ∧ aS[bn + 1]? = some (.int .i32 ((bn + 1 : Nat) : Int)) ∧ aT[bn]? = some (.pointer (some ⟨t, 0, none⟩)) ∧ aA[bn]? = some (.pointer (some ⟨t, 0, none⟩)) ∧ Blk w' t tm 50
theorem Laid.below {w0 w1 w2 : World} {H bn : Nat} {tm : Array Value} (h : Laid w0 w1 H bn tm) (hB : Below w1.heap.size w1 w2) : Laid w0 w2 H bn tm := by
  obtain ⟨h1, h2, t, aT, aA, aS, h3, bT, bA, bS, e1, e2, e3, e4, bt⟩ := h
  exact ⟨h1.trans (hB.mono (by omega)), Nat.le_trans h2 hB.size, t, aT, aA, aS, h3, bT.below hB bT.lt, bA.below hB bA.lt, bS.below hB bS.lt, e1, e2, e3, e4, bt.below hB bt.lt⟩
theorem BInv.last {w0 wr : World} {H n bn : Nat} {tm : Array Value} (h : BInv w0 wr H n bn tm n) (hb : bn < n) :
    (∃ v, wr.cell? ⟨H + 3, n, none⟩ = some v ∧ wr.frozen? ⟨H + 3, n, none⟩ = false) ∧ Laid w0 (wr.setCell ⟨H + 3, n, none⟩ (.int .i32 n)) H bn tm := by
  obtain ⟨hB, hs, aT, aA, aP, aS, sT, sA, sP, sS, bT, bA, bP, bS, hst, hbn⟩ := h
  obtain ⟨v, e⟩ := get_of_lt (a := aS) (j := n) (by omega)
  obtain ⟨t, h1, h2, h3, h4⟩ := hbn hb
  refine ⟨⟨v, (bS.cell n).trans e, bS.frozen n⟩, hB.setCell (p := ⟨H + 3, n, none⟩) (Nat.le_add_right _ _) _, by simpa [World.setCell] using hs, t, aT, aA, _, h1,
    bT.set_other (b' := H + 3) (by omega) n _, bA.set_other (b' := H + 3) (by omega) n _, bS.set n _, ?_, ?_, h2, h3, h4.set_other (b' := H + 3) (by omega) n _⟩
  · rw [set_get_other (by omega)]; exact hst bn hb
  · by_cases hn : n = bn + 1
    · subst hn; exact set_get_same (by omega) _
    · rw [set_get_other hn]; exact hst (bn + 1) (by omega)

/-- What zzBuildRotation returns stands in w'. -/
def Built (w w' : World) (R n bn : Nat) (tm : Array Value) (v1 v2 v8 : Value) : Prop :=
  ∃ S v4 ss ns cs, w.heap.size + 4 ≤ S ∧ S < R ∧ Laid w w' w.heap.size bn tm ∧
    Blk w' S (searchArr (some ⟨w.heap.size, 0, none⟩) ss n n ns cs) 56 ∧
    Blk w' R (rotArr (some ⟨S, 0, none⟩) v1 v2 (.slice (some ⟨w.heap.size + 1, 0, none⟩) n n) v4 (.slice (some ⟨w.heap.size + 3, 0, none⟩) (n + 1) (n + 1)) v8) 46

set_option maxRecDepth 100000 in
set_option maxHeartbeats 400000 in
/-- zzBuildRotation (function 9). -/
theorem build_any (sN sA sM sS : Option Addr) (n na nm bn cN cA cM cS : Nat) (k count : Int) (ss : List Bool) (w : World)
    (hn : n ≤ 65536) (hss : ss.length ≤ 65536) (hb : bn < n) (hR : Row w sS (BV ss)) :
    Calls Try.prog 9 #[.slice sN n cN, .slice sA na cA, .int .i64 bn, .int .i64 (-1), .int .i64 k, .int .i64 count, .slice sM nm cM, .slice sS ss.length cS] w fun e w' =>
      ∃ R, e = .returned (.pointer (some ⟨R, 0, none⟩)) ∧ Built w w' R n bn (termArr k count sM nm cM) (.slice sN n cN) (.slice sA na cA) (.slice sS ss.length cS) := by
  have HR := hide hR
  clear hR
  have hmkT := run_make_row' (P := Try.prog) 35 37 (.pointer none) 8 Try.underlying35 info37 rfl .i64 .i64 n (by omega) (by omega)
  have hmkP := run_make_row' (P := Try.prog) 36 21 (.int .i32 0) 4 Try.underlying36 info21 rfl .i64 .i64 n (by omega) (by omega)
  have hmkS := run_make_row' (P := Try.prog) 36 21 (.int .i32 0) 4 Try.underlying36 info21 rfl .i64 .i64 (n + 1) (by omega) (by omega)
  rw [show ((n + 1 : Nat) : Int) = (n : Int) + 1 from by omega] at hmkS
  have hI := BInv.start w n bn (termArr k count sM nm cM) (madeCells #[.pointer none] n) (madeCells #[.pointer none] n) (madeCells #[.int .i32 0] n) (madeCells #[.int .i32 0] (n + 1)) (by simp [size_madeCells]) (by simp [size_madeCells]) (by simp [size_madeCells]) (by simp [size_madeCells])
  have HI := hide hI
  clear hI
  go_enter Try.func9, Try.ntmps9
  go_wp2
  go_loopw [22] (fun i wr => ∃ j : Nat, j ≤ n ∧ i = .int .i64 j ∧ Hid (BInv w wr w.heap.size n bn (termArr k count sM nm cM) j)) (fun i _ => n - (intOf i).toNat)
  case atStart => exact ⟨0, Nat.zero_le _, rfl, HI.out⟩
  case round =>
    obtain ⟨j, hj, rfl, HJ⟩ := hrel
    clear HI
    by_cases hlt : j < n
    · by_cases hjb : j = bn
      · obtain ⟨⟨v1, v2, v3, v4, f1, g1, f2, f3, g3, f4, g4, f5, g5⟩, hI⟩ := HJ.out.step (ta := termArr k count sM nm cM) hlt (fun _ => rfl)
        have HI := hide hI
        clear hI
        subst hjb
        go_wp2_with fail
        refine (newTerm_any _ _ _ _ _ _).mono ?_
        rintro e w1 ⟨rfl, hw⟩
        rw [hw]
        clear hw w1
        go_wp2
        exact ⟨⟨j + 1, by omega, by go_num, HI.out⟩, by simp [intOf]; omega⟩
      · obtain ⟨ta, hta⟩ : ∃ ta, ta = termArr 0 0 none 0 0 := ⟨_, rfl⟩
        have Hta := hide hta
        clear hta
        obtain ⟨⟨v1, v2, v3, v4, f1, g1, f2, f3, g3, f4, g4, f5, g5⟩, hI⟩ := HJ.out.step (ta := ta) hlt (fun h => absurd h hjb)
        have HI := hide hI
        clear hI
        have hn1 : ((j : Int) == (bn : Int)) = false := by simp; omega
        have hn2 : ((j : Int) == -1) = false := by simp
        go_wp2_with fail
        refine (newTerm_any _ _ _ _ _ _).mono ?_
        rintro e w1 ⟨rfl, hw⟩
        rw [hw, ← Hta.out]
        clear hw w1
        go_wp2
        exact ⟨⟨j + 1, by omega, by go_num, HI.out⟩, by simp [intOf]; omega⟩
    · obtain rfl : j = n := by omega
      have hB1 := HJ.out.1
      obtain ⟨⟨v, hv, hf⟩, hL⟩ := HJ.out.last hb
      have HL := hide hL
      have HB1 := hide hB1
      clear hL hB1 HJ
      go_wp2_with fail
      have HL := HL.out
      generalize wr.setCell ⟨w.heap.size + 3, j, none⟩ (.int .i32 j) = W2 at HL ⊢
      refine (cloneB_any _ _ ss _ (by omega) (HR.out.below HL.1)).mono ?_
      rintro e w1 ⟨sa', rfl, hw, hfr⟩
      have hL1 := HL.below hw
      clear hfr
      go_wp2_with fail
      refine (newSearch_any _ _ _ _ _ _ _).mono ?_
      rintro e w3 ⟨rfl, hw3⟩
      have hbS := Blk.alloc_new w1 (searchArr (some ⟨w.heap.size, 0, none⟩) sa' j j ss.length ss.length) 56
      have hL2 : Laid w w3 w.heap.size bn (termArr k count sM nm cM) := hL1.below (by rw [hw3]; exact (Below.refl _ _).alloc (Nat.le_refl _) _)
      rw [← hw3] at hbS
      have hS3 : w1.heap.size < w3.heap.size := hbS.lt
      clear hw3
      go_wp2_with fail
      refine (newRotation_any _ _ _ _ _ _ _ _ _ _ _ _ _ _ _ _ _ _ _ _).mono ?_
      rintro e w4 ⟨rfl, hw4⟩
      have hBe : Below w3.heap.size w3 w4 := by rw [hw4]; exact (Below.refl _ _).alloc (Nat.le_refl _) _
      have hbR := Blk.alloc_new w3 (rotArr (some ⟨w1.heap.size, 0, none⟩) (.slice sN j cN) (.slice sA na cA) (.slice (some ⟨w.heap.size + 1, 0, none⟩) j j) (.slice (some ⟨w.heap.size + 2, 0, none⟩) j j) (.slice (some ⟨w.heap.size + 3, 0, none⟩) (j + 1) (j + 1)) (.slice sS ss.length cS)) 46
      rw [← hw4] at hbR
      clear hw4
      go_wp2
      go_ret
      exact ⟨w3.heap.size, rfl, w1.heap.size, _, sa', ss.length, ss.length, hL1.2.1, hS3, hL2.below hBe, hbS.below hBe hbS.lt, hbR⟩
end Go.Proofs.Qxb6612169a
