import Derived.Test.Qxb6612169aMem
namespace Go.Proofs.Qxb6612169a
open Go.RowKit

/-- A slice of one-cell elements as the walk reads it. -/
def Row (w : World) (sa : Option Addr) (vs : List Value) : Prop :=
  ∀ k, k < vs.length → ∃ b off, sa = some ⟨b, off, none⟩ ∧ b < w.heap.size ∧ ∀ j v, vs[j]? = some v → w.cell? ⟨b, off + j, none⟩ = some v
theorem Row.below {w w' : World} {sa : Option Addr} {vs : List Value} (h : Row w sa vs) (hB : Below w.heap.size w w') : Row w' sa vs := by
  intro k hk
  obtain ⟨b, off, e, hb, hc⟩ := h k hk
  exact ⟨b, off, e, Nat.lt_of_lt_of_le hb hB.size, fun j v hj => (hB.cell hb).trans (hc j v hj)⟩
def BV (bs : List Bool) : List Value := bs.map Value.bool
def IV (zs : List Int) : List Value := zs.map (Value.int .i64)
theorem BV_len (bs : List Bool) : (BV bs).length = bs.length := by simp [BV]
theorem IV_len (zs : List Int) : (IV zs).length = zs.length := by simp [IV]
theorem BV_get (bs : List Bool) (k : Nat) (h : k < bs.length) : (BV bs)[k]? = some (.bool (bs.getD k false)) := by simp [BV, List.getD, h]
theorem IV_get (zs : List Int) (k : Nat) (h : k < zs.length) : (IV zs)[k]? = some (.int .i64 (zs.getD k 0)) := by simp [IV, List.getD, h]
theorem BV_getD (bs : List Bool) (k : Nat) (h : k < bs.length) : (BV bs).getD k (.bool false) = .bool (bs.getD k false) := by simp [BV, List.getD, h]
theorem IV_getD (zs : List Int) (k : Nat) (h : k < zs.length) : (IV zs).getD k (.int .i64 0) = .int .i64 (zs.getD k 0) := by simp [IV, List.getD, h]

/-- A slice that the call has made: nil, or the whole of block B. -/
def Fresh (w : World) (B : Nat) (sa : Option Addr) (vs : List Value) (t : TypeId) : Prop := (sa = none ∧ vs = []) ∨ (sa = some ⟨B, 0, none⟩ ∧ Blk w B vs.toArray t)
theorem Fresh.row {w : World} {B : Nat} {sa : Option Addr} {vs : List Value} {t : TypeId} (h : Fresh w B sa vs t) : Row w sa vs := by
  rcases h with ⟨rfl, rfl⟩ | ⟨rfl, h⟩
  · intro k hk; simp at hk
  · intro k _
    exact ⟨B, 0, rfl, h.lt, fun j v hj => by rw [Nat.zero_add, h.cell]; simpa using hj⟩
theorem Fresh.below {w w' : World} {B N : Nat} {sa : Option Addr} {vs : List Value} {t : TypeId} (h : Fresh w B sa vs t) (hB : Below N w w') (hN : B < N) : Fresh w' B sa vs t := by
  rcases h with h | ⟨e, h⟩
  · exact .inl h
  · exact .inr ⟨e, h.below hB hN⟩

theorem info4 : (Try.prog.info? 4).map (fun i => (i.zero, i.size, i.bytes)) = some (some (.bool false), 1, 1) := by kernel_rfl
theorem info3 : (Try.prog.info? 3).map (fun i => (i.zero, i.size, i.bytes)) = some (some (.int .i64 0), 1, 8) := by kernel_rfl

set_option maxHeartbeats 1000000 in
/-- zzCloneBools (function 6). -/
theorem cloneB_any (sa : Option Addr) (cap : Nat) (xs : List Bool) (w : World) (hlen : xs.length ≤ 1048576) (hR : Row w sa (BV xs)) :
    Calls Try.prog 6 #[.slice sa xs.length cap] w fun e w' => ∃ sa', e = .returned (.slice sa' xs.length xs.length) ∧ Below w.heap.size w w' ∧ Fresh w' w.heap.size sa' (BV xs) 4 := by
  have heq := fun (wx : World) (a : Option Addr) (n c : Nat) => Lib.run_eql_slice_nil (P := Try.prog) wx 22 4 a n c 0 0 Try.underlying22
  cases sa with
  | none =>
    have hx : xs = [] := by
      cases xs with
      | nil => rfl
      | cons x r =>
        obtain ⟨b, off, e, _⟩ := hR 0 (by rw [BV_len]; simp)
        cases e
    subst hx
    go_enter Try.func6, Try.ntmps6
    go_wp2
    go_ret
    exact ⟨none, rfl, Below.refl _ _, .inl ⟨rfl, rfl⟩⟩
  | some a0 =>
    have hmk := run_make_row' (P := Try.prog) 22 4 (.bool false) 1 Try.underlying22 info4 rfl .i64 .i64 xs.length (by omega) (by omega)
    have HR := hide hR
    clear hR
    go_enter Try.func6, Try.ntmps6
    go_wp2
    have hM : Blk (w.alloc (.cells (madeCells #[(.bool false)] xs.length) 4)) w.heap.size (fillK (BV xs) ((.bool false)) 0) 4 := by
      rw [← fill_zero, BV_len]; exact Blk.alloc_new _ _ _
    have hB0 : Below w.heap.size w (w.alloc (.cells (madeCells #[(.bool false)] xs.length) 4)) := (Below.refl _ _).alloc (Nat.le_refl _) _
    go_loopw [4] (fun i wr => ∃ k : Nat, k ≤ xs.length ∧ i = .int .i64 k ∧ Hid (Blk wr w.heap.size (fillK (BV xs) ((.bool false)) k) 4) ∧ Hid (Below w.heap.size w wr)) (fun i _ => xs.length - (intOf i).toNat)
    case atStart => exact ⟨0, Nat.zero_le _, rfl, hM, hB0⟩
    case round =>
      obtain ⟨k, hk, rfl, HM, HB⟩ := hrel
      clear hM hB0
      by_cases hlt : k < xs.length
      · obtain ⟨b, off, e, hb, hc⟩ := HR.out.below HB.out k (by rw [BV_len]; exact hlt)
        cases e
        have hck := hc k _ (BV_get xs k hlt)
        clear hc
        have hs := HM.out.set k (.bool (xs.getD k false))
        rw [← BV_getD xs k hlt, fill_step _ _ _ (by rw [BV_len]; exact hlt), BV_getD xs k hlt] at hs
        have hcB := HM.out.cell k
        rw [fill_get _ _ _ (by rw [BV_len]; exact hlt)] at hcB
        have hfB := HM.out.frozen k
        have hBs := HB.out.setCell (p := ⟨w.heap.size, k, none⟩) (Nat.le_refl _) (.bool (xs.getD k false))
        generalize xs.getD k false = x at hck hs hBs
        have HS := hide hs
        have HBs := hide hBs
        clear hs hBs HM HB
        go_wp2
        exact ⟨⟨k + 1, by omega, by go_num, HS.out, HBs.out⟩, by simp [intOf]; omega⟩
      · obtain rfl : k = xs.length := by omega
        go_wp2
        go_ret
        refine ⟨some ⟨w.heap.size, 0, none⟩, rfl, HB.out, .inr ⟨rfl, ?_⟩⟩
        have := HM.out
        rw [← BV_len xs, fill_full] at this
        exact this

set_option maxHeartbeats 1000000 in
/-- zzCloneInts (function 7). -/
theorem cloneI_any (sa : Option Addr) (cap : Nat) (xs : List Int) (w : World) (hlen : xs.length ≤ 1048576) (hR : Row w sa (IV xs)) :
    Calls Try.prog 7 #[.slice sa xs.length cap] w fun e w' => ∃ sa', e = .returned (.slice sa' xs.length xs.length) ∧ Below w.heap.size w w' ∧ Fresh w' w.heap.size sa' (IV xs) 3 := by
  have heq := fun (wx : World) (a : Option Addr) (n c : Nat) => Lib.run_eql_slice_nil (P := Try.prog) wx 23 3 a n c 0 0 Try.underlying23
  cases sa with
  | none =>
    have hx : xs = [] := by
      cases xs with
      | nil => rfl
      | cons x r =>
        obtain ⟨b, off, e, _⟩ := hR 0 (by rw [IV_len]; simp)
        cases e
    subst hx
    go_enter Try.func7, Try.ntmps7
    go_wp2
    go_ret
    exact ⟨none, rfl, Below.refl _ _, .inl ⟨rfl, rfl⟩⟩
  | some a0 =>
    have hmk := run_make_row' (P := Try.prog) 23 3 (.int .i64 0) 8 Try.underlying23 info3 rfl .i64 .i64 xs.length (by omega) (by omega)
    have HR := hide hR
    clear hR
    go_enter Try.func7, Try.ntmps7
    go_wp2
    have hM : Blk (w.alloc (.cells (madeCells #[(.int .i64 0)] xs.length) 3)) w.heap.size (fillK (IV xs) ((.int .i64 0)) 0) 3 := by
      rw [← fill_zero, IV_len]; exact Blk.alloc_new _ _ _
    have hB0 : Below w.heap.size w (w.alloc (.cells (madeCells #[(.int .i64 0)] xs.length) 3)) := (Below.refl _ _).alloc (Nat.le_refl _) _
    go_loopw [4] (fun i wr => ∃ k : Nat, k ≤ xs.length ∧ i = .int .i64 k ∧ Hid (Blk wr w.heap.size (fillK (IV xs) ((.int .i64 0)) k) 3) ∧ Hid (Below w.heap.size w wr)) (fun i _ => xs.length - (intOf i).toNat)
    case atStart => exact ⟨0, Nat.zero_le _, rfl, hM, hB0⟩
    case round =>
      obtain ⟨k, hk, rfl, HM, HB⟩ := hrel
      clear hM hB0
      by_cases hlt : k < xs.length
      · obtain ⟨b, off, e, hb, hc⟩ := HR.out.below HB.out k (by rw [IV_len]; exact hlt)
        cases e
        have hck := hc k _ (IV_get xs k hlt)
        clear hc
        have hs := HM.out.set k (.int .i64 (xs.getD k 0))
        rw [← IV_getD xs k hlt, fill_step _ _ _ (by rw [IV_len]; exact hlt), IV_getD xs k hlt] at hs
        have hcB := HM.out.cell k
        rw [fill_get _ _ _ (by rw [IV_len]; exact hlt)] at hcB
        have hfB := HM.out.frozen k
        have hBs := HB.out.setCell (p := ⟨w.heap.size, k, none⟩) (Nat.le_refl _) (.int .i64 (xs.getD k 0))
        generalize xs.getD k 0 = x at hck hs hBs
        have HS := hide hs
        have HBs := hide hBs
        clear hs hBs HM HB
        go_wp2
        exact ⟨⟨k + 1, by omega, by go_num, HS.out, HBs.out⟩, by simp [intOf]; omega⟩
      · obtain rfl : k = xs.length := by omega
        go_wp2
        go_ret
        refine ⟨some ⟨w.heap.size, 0, none⟩, rfl, HB.out, .inr ⟨rfl, ?_⟩⟩
        have := HM.out
        rw [← IV_len xs, fill_full] at this
        exact this

end Go.Proofs.Qxb6612169a
