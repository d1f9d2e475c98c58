import Derived.Test.Qxb6612169aEq
import Derived.ArgAppend
import Derived.Lib.JoinLaws
import Derived.Lib.AppendZeros
namespace Go.Proofs.Qxb6612169a
open Go.RowKit

/-! ### The plain side -/
def cnt (zs : List Int) (x : Int) : Nat := zs.countP (· < x)
theorem cnt_le (zs : List Int) (x : Int) : cnt zs x ≤ zs.length := List.countP_le_length
theorem take_getD (zs : List Int) (k : Nat) (h : k < zs.length) : zs.take (k + 1) = zs.take k ++ [zs.getD k 0] := by
  rw [List.take_succ_eq_append_getElem h]
  simp [List.getD, h]
theorem cnt_step (zs : List Int) (x : Int) (k : Nat) (h : k < zs.length) {y : Int} (hy : zs.getD k 0 = y) : cnt (zs.take (k + 1)) x = cnt (zs.take k) x + if y < x then 1 else 0 := by
  unfold cnt
  rw [take_getD zs k h, List.countP_append, hy]
  by_cases hlt : y < x <;> simp [hlt]
/-- What zzInsertCounted makes. -/
def ins (zs : List Int) (x : Int) : List Int := zs.take (cnt zs x) ++ x :: zs.drop (cnt zs x)
theorem ins_len (zs : List Int) (x : Int) : (ins zs x).length = zs.length + 1 := by
  have := cnt_le zs x
  unfold ins
  rw [List.length_append, List.length_take, List.length_cons, List.length_drop]
  omega
theorem ins_left (zs : List Int) (x : Int) (k : Nat) (h : k < cnt zs x) : (ins zs x).getD k 0 = zs.getD k 0 := by
  have := cnt_le zs x
  unfold ins
  rw [List.getD_eq_getElem?_getD, List.getElem?_append_left (by rw [List.length_take]; omega), List.getElem?_take_of_lt h, List.getD_eq_getElem?_getD]
theorem ins_mid (zs : List Int) (x : Int) : (ins zs x).getD (cnt zs x) 0 = x := by
  have := cnt_le zs x
  unfold ins
  rw [List.getD_eq_getElem?_getD, List.getElem?_append_right (by rw [List.length_take]; omega), List.length_take, Nat.min_eq_left this, Nat.sub_self]
  rfl
theorem ins_right (zs : List Int) (x : Int) (k : Nat) (h : cnt zs x ≤ k) : (ins zs x).getD (k + 1) 0 = zs.getD k 0 := by
  have := cnt_le zs x
  unfold ins
  rw [List.getD_eq_getElem?_getD, List.getElem?_append_right (by rw [List.length_take]; omega), List.length_take, Nat.min_eq_left this,
    show k + 1 - cnt zs x = (k - cnt zs x) + 1 from by omega, List.getElem?_cons_succ, List.getElem?_drop, show cnt zs x + (k - cnt zs x) = k from by omega, List.getD_eq_getElem?_getD]

/-- 'append(out, x)' where there is room, out the head of a block that the call has made. -/
theorem append_room (w : World) (B n c v : Nat) (arr : Array Value) (x : Int) (ty : TypeId) (hM : Blk w B arr 3) (hn : n < c) (ha : n < arr.size) (hv : w.cell? ⟨v, 0, none⟩ = some (.int .i64 x)) :
    (Builtin.append_ #[23, 23] ty #[.slice (some ⟨B, 0, none⟩) n c, .slice (some ⟨v, 0, none⟩) 1 1]).run Try.prog w = .ok (.slice (some ⟨B, 0, none⟩) (n + 1) c) (w.setCell ⟨B, n, none⟩ (.int .i64 x)) := by
  obtain ⟨i0, hi, hz0, hz1, hz2⟩ := info_parts info3
  have := run_append_room_cells (P := Try.prog) w 23 ty 3 i0 Try.underlying23 hi B 0 n c ⟨v, 0, none⟩ 1 1 [.int .i64 x] (by rw [hz1]; rfl)
    (fun j u hj => by
      match j, hj with
      | 0, hj => simp at hj; subst hj; exact hv
      | j + 1, hj => simp at hj)
    (fun u hu => by simp at hu; subst hu; rfl) (by omega)
    (fun j hj => by
      simp at hj; subst hj
      rw [hM.cell, hz1]
      simp [ha])
    (fun j _ => hM.frozen _)
  rw [hz1] at this
  simpa [World.setCells] using this

/-- One append of a round, whole: its run, the row behind it, what is kept. -/
theorem app_step {w wr : World} {B k N : Nat} {T : List Int} {y : Int} (HM : Blk wr B (fillK (IV T) (.int .i64 0) k) 3) (HB : Below B w wr) (hB : B ≤ wr.heap.size) (hk : k < T.length) (hN : k < N) (hT : T.getD k 0 = y) :
    (∀ ty, (Builtin.append_ #[23, 23] ty #[.slice (some ⟨B, 0, none⟩) k N, .slice (some ⟨wr.heap.size, 0, none⟩) 1 1]).run Try.prog (wr.alloc (.cells #[.int .i64 y] 3)) = .ok (.slice (some ⟨B, 0, none⟩) (k + 1) N) ((wr.alloc (.cells #[.int .i64 y] 3)).setCell ⟨B, k, none⟩ (.int .i64 y))) ∧
    Blk ((wr.alloc (.cells #[.int .i64 y] 3)).setCell ⟨B, k, none⟩ (.int .i64 y)) B (fillK (IV T) (.int .i64 0) (k + 1)) 3 ∧ Below B w ((wr.alloc (.cells #[.int .i64 y] 3)).setCell ⟨B, k, none⟩ (.int .i64 y)) := by
  have hT' : (IV T).getD k (.int .i64 0) = .int .i64 y := by rw [IV_getD T k hk, hT]
  have hM1 : Blk (wr.alloc (.cells #[.int .i64 y] 3)) B (fillK (IV T) (.int .i64 0) k) 3 := HM.below ((Below.refl _ _).alloc (Nat.le_refl _) _) HM.lt
  refine ⟨fun ty => append_room _ B k N wr.heap.size _ y ty hM1 hN (by simp [fillK, IV_len]; omega) (by simp), ?_, (HB.alloc hB _).setCell (p := ⟨B, k, none⟩) (Nat.le_refl _) _⟩
  have hs := hM1.set k (.int .i64 y)
  rw [← hT', fill_step _ _ _ (by rw [IV_len]; exact hk), hT'] at hs
  exact hs

set_option maxHeartbeats 2000000 in
/-- zzInsertCounted (function 8). -/
theorem insert_any (sa : Option Addr) (cap : Nat) (zs : List Int) (x : Int) (w : World) (hlen : zs.length ≤ 1048576) (hR : Row w sa (IV zs)) :
    Calls Try.prog 8 #[.slice sa zs.length cap, .int .i64 x] w fun e w' => e = .returned (.slice (some ⟨w.heap.size, 0, none⟩) (zs.length + 1) (zs.length + 1)) ∧ Below w.heap.size w w' ∧ Blk w' w.heap.size (IV (ins zs x)).toArray 3 := by
  have hmk := run_make_room (P := Try.prog) 23 3 (.int .i64 0) 8 Try.underlying23 info3 rfl .i64 .i64 (zs.length + 1) (by omega) (by omega)
  rw [show ((zs.length + 1 : Nat) : Int) = (zs.length : Int) + 1 from by omega] at hmk
  have HR := hide hR
  clear hR
  have hcl := cnt_le zs x
  have hTl := ins_len zs x
  have Hleft := hide (ins_left zs x)
  have Hmid := hide (ins_mid zs x)
  have Hright := hide (ins_right zs x)
  generalize ins zs x = T at hTl Hleft Hmid Hright ⊢
  generalize hcc : cnt zs x = cc at hcl Hleft Hmid Hright
  have Hcc := hide hcc
  have HTl := hide hTl
  clear hcc hTl
  go_enter Try.func8, Try.ntmps8
  go_wp2
  go_loop [5, 6] (fun c i => ∃ k : Nat, k ≤ zs.length ∧ i = .int .i64 k ∧ c = .int .i64 (cnt (zs.take k) x : Nat)) (fun _ i => zs.length - (intOf i).toNat)
  case atStart => exact ⟨0, Nat.zero_le _, rfl, rfl⟩
  case round =>
    obtain ⟨k, hk, rfl, rfl⟩ := hrel
    by_cases hlt : k < zs.length
    · obtain ⟨b, off, e, hb, hc⟩ := HR.out k (by rw [IV_len]; exact hlt)
      subst e
      have hck := hc k _ (IV_get zs k hlt)
      clear hc
      generalize hy : zs.getD k 0 = y at hck
      have hst := cnt_step zs x k hlt hy
      have hc1 : cnt (zs.take k) x ≤ zs.length := Nat.le_trans (cnt_le _ _) (List.length_take_le' _ _)
      clear hy
      by_cases hyx : y < x
      · rw [if_pos hyx] at hst
        have Hst := hide hst
        clear hst
        go_wp2
        exact ⟨⟨k + 1, by omega, by go_num, by rw [Hst.out]; go_num⟩, by simp [intOf]; omega⟩
      · rw [if_neg hyx] at hst
        have Hst := hide hst
        clear hst
        go_wp2
        exact ⟨⟨k + 1, by omega, by go_num, by rw [Hst.out]; rfl⟩, by simp [intOf]; omega⟩
    · obtain rfl : k = zs.length := by omega
      rw [List.take_length, Hcc.out]
      go_wp2
      have hM : Blk (w.alloc (.cells (madeCells #[.int .i64 0] (zs.length + 1)) 3)) w.heap.size (fillK (IV T) (.int .i64 0) 0) 3 := by
        rw [← fill_zero, IV_len, HTl.out]; exact Blk.alloc_new _ _ _
      have hB0 : Below w.heap.size w (w.alloc (.cells (madeCells #[.int .i64 0] (zs.length + 1)) 3)) := (Below.refl _ _).alloc (Nat.le_refl _) _
      go_loopw [7, 8] (fun out i wr => ∃ k : Nat, k ≤ cc ∧ i = .int .i64 k ∧ out = .slice (some ⟨w.heap.size, 0, none⟩) k (zs.length + 1) ∧ Hid (Blk wr w.heap.size (fillK (IV T) (.int .i64 0) k) 3) ∧ Hid (Below w.heap.size w wr)) (fun _ i _ => cc - (intOf i).toNat)
      case atStart => exact ⟨0, Nat.zero_le _, rfl, rfl, hM, hB0⟩
      case round =>
        obtain ⟨k, hk, rfl, rfl, HM, HB⟩ := hrel
        clear hM hB0
        by_cases hlt : k < cc
        · obtain ⟨b, off, e, hb, hc⟩ := HR.out.below HB.out k (by rw [IV_len]; omega)
          subst e
          have hck := hc k _ (IV_get zs k (by omega))
          clear hc
          have hst := app_step (N := zs.length + 1) HM.out HB.out HB.out.size (by rw [HTl.out]; omega) (by omega) (Hleft.out k hlt)
          generalize zs.getD k 0 = y at hck hst
          obtain ⟨hap, hs, hBs⟩ := hst
          have HS := hide hs
          have HBs := hide hBs
          clear hs hBs
          go_wp2_with (at_builtin; refine Lib.wpList_append_run _ rfl _ _ _ _ rfl _ _ rfl rfl _ _ (hap _) ?_)
          exact ⟨⟨k + 1, by omega, by go_num, rfl, HS.out, HBs.out⟩, by simp [intOf]; omega⟩
        · obtain rfl : k = cc := by omega
          obtain ⟨W2, rfl⟩ : ∃ W2 : World, W2 = wr := ⟨_, rfl⟩
          have hst := app_step (N := zs.length + 1) HM.out HB.out HB.out.size (by rw [HTl.out]; omega) (by omega) Hmid.out
          obtain ⟨hap, hs, hBs⟩ := hst
          have HS := hide hs
          have HBs := hide hBs
          clear hs hBs HM HB
          go_wp2_with (at_builtin; refine Lib.wpList_append_run _ rfl _ _ _ _ rfl _ _ rfl rfl _ _ (hap _) ?_)
          clear hap
          go_loopw [7, 9] (fun out i wr => ∃ j : Nat, k ≤ j ∧ j ≤ zs.length ∧ i = .int .i64 j ∧ out = .slice (some ⟨w.heap.size, 0, none⟩) (j + 1) (zs.length + 1) ∧ Hid (Blk wr w.heap.size (fillK (IV T) (.int .i64 0) (j + 1)) 3) ∧ Hid (Below w.heap.size w wr)) (fun _ i _ => zs.length - (intOf i).toNat)
          case atStart => exact ⟨k, Nat.le_refl _, hcl, rfl, rfl, HS.out, HBs.out⟩
          case round =>
            obtain ⟨j, hj1, hj2, rfl, rfl, HM, HB⟩ := hrel
            clear HS HBs
            by_cases hlt : j < zs.length
            · obtain ⟨b, off, e, hb, hc⟩ := HR.out.below HB.out j (by rw [IV_len]; omega)
              subst e
              have hck := hc j _ (IV_get zs j (by omega))
              clear hc
              have hst := app_step (N := zs.length + 1) HM.out HB.out HB.out.size (by rw [HTl.out]; omega) (by omega) (Hright.out j hj1)
              generalize zs.getD j 0 = y at hck hst
              obtain ⟨hap, hs, hBs⟩ := hst
              have HS := hide hs
              have HBs := hide hBs
              clear hs hBs
              go_wp2_with (at_builtin; refine Lib.wpList_append_run _ rfl _ _ _ _ rfl _ _ rfl rfl _ _ (hap _) ?_)
              exact ⟨⟨j + 1, by omega, by omega, by go_num, rfl, HS.out, HBs.out⟩, by simp [intOf]; omega⟩
            · obtain rfl : j = zs.length := by omega
              go_wp2
              go_ret
              refine ⟨rfl, HB.out, ?_⟩
              have := HM.out
              rw [show zs.length + 1 = (IV T).length from by rw [IV_len, HTl.out], fill_full] at this
              exact this
end Go.Proofs.Qxb6612169a
