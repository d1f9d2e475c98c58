import Derived.Test.Qxb6612169aMark
namespace Go.Proofs.Qxb6612169a
open Go.RowKit

set_option maxRecDepth 100000 in
set_option maxHeartbeats 1000000 in
/-- mends (function 21), of an at-most term that is broken by two or more: false. -/
theorem mends_any (R t e : Nat) (k count : Int) (sM sS : Option Addr) (nm cM cS : Nat) (ss : List Bool) (w : World)
    (ht : Blk w t (termArr k count sM nm cM) 50) (hsel : w.cell? ⟨R, 8, none⟩ = some (.slice sS ss.length cS)) (hS : Row w sS (BV ss)) (he : e < ss.length) (hk0 : 0 ≤ k) (hk1 : k ≤ 65536) (hc : k + 2 ≤ count) :
    Calls Try.prog 21 #[.pointer (some ⟨R, 0, none⟩), .pointer (some ⟨t, 0, none⟩), .int .i64 e] w fun e' w' => e' = .returned (.bool false) ∧ ∃ q, w' = w.drewN q := by
  obtain ⟨b, off, ea, hb, hcs⟩ := hS e (by rw [BV_len]; exact he)
  subst ea
  have f1 := hcs e _ (BV_get ss e he)
  have f2 : w.cell? ⟨t, 0, none⟩ = some (.int .i8 0) := (ht.cell 0).trans rfl
  have f3 : w.cell? ⟨t, 1, none⟩ = some (.int .i64 k) := (ht.cell 1).trans rfl
  have f4 : w.cell? ⟨t, 6, none⟩ = some (.int .i64 count) := (ht.cell 6).trans rfl
  have hne : (count == k + 1) = false := by simp; omega
  clear hcs ht hS
  generalize ss.getD e false = x at f1
  cases x
  · go_enter Try.func21, Try.ntmps21
    go_wp2_with fail
    go_quiet (fail)
    go_wp2
    go_ret
    exact ⟨rfl, _, rfl⟩
  · go_enter Try.func21, Try.ntmps21
    go_wp2_with fail
    go_quiet (fail)
    go_wp2
    go_ret
    exact ⟨rfl, _, rfl⟩

theorem Marked.drewN {w w' : World} {R nb bn : Nat} {bs : List Bool} {zs : List Int} {s : Option Addr} {v3 v4 v5 v8 : Value} (h : Marked w w' R nb bn bs zs s v3 v4 v5 v8) (q : Nat) : Marked w (w'.drewN q) R nb bn bs zs s v3 v4 v5 v8 :=
  ⟨fun B h1 h2 h3 => below_drewN (h.1 B h1 h2 h3) q, h.2⟩
/-- A block of another kind than the two that mark writes is as it was. -/
theorem Marked.keeps {w w' : World} {R nb bn b : Nat} {bs : List Bool} {zs : List Int} {s : Option Addr} {v3 v4 v5 v8 : Value} {x : Array Value} {t : TypeId} (h : Marked w w' R nb bn bs zs s v3 v4 v5 v8) (hb : Blk w b x t) (h1 : b ≠ nb) (h2 : b ≠ R) : Blk w' b x t :=
  (h.2.1 b hb.lt h1 h2).trans hb
theorem Marked.fresh {w w' : World} {R nb bn b : Nat} {bs : List Bool} {zs : List Int} {s sa : Option Addr} {v3 v4 v5 v8 : Value} {x : List Value} {t : TypeId} (h : Marked w w' R nb bn bs zs s v3 v4 v5 v8) (hb : Fresh w b sa x t) (h1 : b ≠ nb) (h2 : b ≠ R) : Fresh w' b sa x t := by
  rcases hb with hb | ⟨e, hb⟩
  · exact .inl hb
  · exact .inr ⟨e, h.keeps hb h1 h2⟩

set_option maxRecDepth 100000 in
set_option maxHeartbeats 1000000 in
/-- spread (function 19), of an at-most atom that is broken by two or more: it marks. -/
theorem spread_any (R nb ab mb sb bn : Nat) (bs : List Bool) (zs ms : List Int) (ss : List Bool) (k count : Int) (sA sM sS : Option Addr) (w0 w : World)
    (hBu : Built w0 w R bs.length bn (termArr k count sM ms.length ms.length) (.slice (some ⟨nb, 0, none⟩) bs.length bs.length) (.slice sA zs.length zs.length) (.slice sS ss.length ss.length))
    (hN : Blk w nb (BV bs).toArray 4) (hA : Fresh w ab sA (IV zs) 3) (hM : Fresh w mb sM (IV ms) 3) (hS : Fresh w sb sS (BV ss) 4)
    (hnb : nb < w0.heap.size) (hmb : mb < w0.heap.size) (hsb : sb < w0.heap.size) (hmn : mb ≠ nb) (hsn : sb ≠ nb)
    (hz : zs.length ≤ 65536) (hbl : bs.length ≤ 65536) (hml : ms.length ≤ 65536) (hf : FitsP bs zs bn k count ms ss) :
    Calls Try.prog 19 #[.pointer (some ⟨R, 0, none⟩), .int .i64 bn] w fun e w' => e = .returned (.tuple #[]) ∧ ∃ s v3 v4 v5, Marked w w' R nb bn bs zs s v3 v4 v5 (.slice sS ss.length ss.length) := by
  obtain ⟨S, v4, s1, n1, c1, hS4, hSR, ⟨hBl, hHs, t, aT, aA, aS, ht4, bT, bA, bS, e1, e2, e3, e4, bt⟩, bSe, bR⟩ := hBu
  have hb : bn < bs.length := by have := hf.b1; omega
  have hk0 := hf.k0
  have hk1 := hf.k1
  have hct := hf.cnt
  have Hmem := hide hf.mem
  have Hsrt := hide hf.sorted
  clear hf
  go_enter Try.func19, Try.ntmps19
  go_wp2_with fail
  refine (mark_any R nb bn bs zs _ sA _ _ _ _ w bR hN ⟨ab, hA⟩ hb hz Hsrt.out).mono ?_
  rintro e W ⟨rfl, hMk⟩
  have cS := hMk.keeps bSe (by omega) (by omega)
  have cT := hMk.keeps bT (by omega) (by omega)
  have cA := hMk.keeps bA (by omega) (by omega)
  have cSt := hMk.keeps bS (by omega) (by omega)
  have ct := hMk.keeps bt (by omega) (bt.ne bR (by decide))
  have HM := hide (hMk.fresh hM hmn (by omega)).row
  have HS := hide (hMk.fresh hS hsn (by omega)).row
  obtain ⟨_, _, _, ab', c', cR, _⟩ := id hMk
  have HMk := hide hMk
  clear hMk bSe bT bA bS bt hM hS hA hN bR hBl
  have f0 : W.cell? ⟨R, 0, none⟩ = some (.pointer (some ⟨S, 0, none⟩)) := (cR.cell 0).trans rfl
  have f3 : W.cell? ⟨R, 3, none⟩ = some (.slice (some ⟨w0.heap.size + 1, 0, none⟩) bs.length bs.length) := (cR.cell 3).trans rfl
  have f5 : W.cell? ⟨R, 5, none⟩ = some (.slice (some ⟨w0.heap.size + 3, 0, none⟩) (bs.length + 1) (bs.length + 1)) := (cR.cell 5).trans rfl
  have f8 : W.cell? ⟨R, 8, none⟩ = some (.slice sS ss.length ss.length) := (cR.cell 8).trans rfl
  have fS : W.cell? ⟨S, 1, none⟩ = some (.slice (some ⟨w0.heap.size, 0, none⟩) bs.length bs.length) := (cS.cell 1).trans rfl
  have fT : W.cell? ⟨w0.heap.size, bn, none⟩ = some (.pointer (some ⟨t, 0, none⟩)) := (cT.cell bn).trans e3
  have fA : W.cell? ⟨w0.heap.size + 1, bn, none⟩ = some (.pointer (some ⟨t, 0, none⟩)) := (cA.cell bn).trans e4
  have fs1 : W.cell? ⟨w0.heap.size + 3, bn, none⟩ = some (.int .i32 bn) := (cSt.cell bn).trans e1
  have fs2 : W.cell? ⟨w0.heap.size + 3, bn + 1, none⟩ = some (.int .i32 ((bn + 1 : Nat) : Int)) := (cSt.cell (bn + 1)).trans e2
  have ft0 : W.cell? ⟨t, 0, none⟩ = some (.int .i8 0) := (ct.cell 0).trans rfl
  have ft2 : W.cell? ⟨t, 2, none⟩ = some (.slice sM ms.length ms.length) := (ct.cell 2).trans rfl
  have Hct := hide ct
  clear cS cT cA cSt ct cR e1 e2 e3 e4
  rw [show ((bn + 1 : Nat) : Int) = (bn : Int) + 1 from by omega] at fs2
  go_wp2_with fail
  go_quiet (fail)
  go_wp2
  go_loopw [43] (fun i wr => ∃ j q : Nat, j ≤ 1 ∧ i = .int .i64 j ∧ wr = W.drewN q) (fun i _ => 1 - (intOf i).toNat)
  case atStart => exact ⟨0, _, Nat.zero_le _, rfl, rfl⟩
  case round =>
    obtain ⟨j, q, hj, rfl, rfl⟩ := hrel
    by_cases hj0 : j = 0
    · subst hj0
      rw [show (((0 : Nat) : Int)) = 0 from rfl]
      go_wp2
      go_loopw [52] (fun i wr => ∃ m q : Nat, m ≤ ms.length ∧ i = .int .i64 m ∧ wr = W.drewN q) (fun i _ => ms.length - (intOf i).toNat)
      case atStart => exact ⟨0, _, Nat.zero_le _, rfl, rfl⟩
      case round =>
        obtain ⟨m, q2, hm, rfl, rfl⟩ := hrel
        by_cases hlt : m < ms.length
        · obtain ⟨b, off, e, hb', hc⟩ := HM.out m (by rw [IV_len]; exact hlt)
          subst e
          have hck := hc m _ (IV_get ms m hlt)
          clear hc
          have hmm := Hmem.out m hlt
          generalize ms.getD m 0 = y at hck hmm
          obtain ⟨yn, rfl⟩ := Int.eq_ofNat_of_zero_le hmm.1
          have hyn : yn < ss.length := by omega
          go_wp2_with fail
          refine (mends_any R t yn k count _ sS _ _ _ ss (W.drewN q2) (Hct.out.drewN q2) f8 HS.out hyn hk0 (by omega) hct).mono ?_
          rintro e w5 ⟨rfl, q3, rfl⟩
          go_wp2
          exact ⟨⟨m + 1, _, by omega, by go_num, rfl⟩, by simp [intOf]; omega⟩
        · obtain rfl : m = ms.length := by omega
          go_wp2
          exact ⟨⟨1, _, by omega, by go_num, rfl⟩, by simp [intOf]⟩
    · obtain rfl : j = 1 := by omega
      go_wp2
      go_end0
      exact ⟨rfl, _, _, _, _, HMk.out.drewN _⟩
end Go.Proofs.Qxb6612169a
