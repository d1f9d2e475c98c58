import Derived.Test.Qxb6612169aBuild
import Derived.Test.Qxb6612169aShelf
import Derived.Lib.EndianMore
namespace Go.Proofs.Qxb6612169a
open Go.RowKit

theorem sorted_pair (zs : List Int) (h : ∀ i, i + 1 < zs.length → zs.getD i 0 < zs.getD (i + 1) 0) : zs.Pairwise (· ≤ ·) := by
  have mono : ∀ d i, i + d < zs.length → zs.getD i 0 ≤ zs.getD (i + d) 0 := by
    intro d
    induction d with
    | zero => intro i _; exact Int.le_refl _
    | succ d ih =>
      intro i hi
      have h1 := ih i (by omega)
      have h2 := h (i + d) (by omega)
      rw [show i + (d + 1) = i + d + 1 from by omega]
      omega
  rw [List.pairwise_iff_getElem]
  intro i j hi hj hij
  have := mono (j - i) i (by omega)
  rw [show i + (j - i) = j from by omega] at this
  simpa [List.getD, hi, hj] using this

/-- slices.BinarySearch (function 23) on the row. -/
theorem bin_any (sA : Option Addr) (zs : List Int) (x : Int) (w : World) (hlen : zs.length ≤ 65536) (hA : Row w sA (IV zs)) (hs : ∀ i, i + 1 < zs.length → zs.getD i 0 < zs.getD (i + 1) 0) :
    Calls Try.prog 23 #[.slice sA zs.length zs.length, .int .i64 x] w fun e w' => ∃ f, e = .returned (.tuple #[.int .i64 (cnt zs x : Nat), .bool f]) ∧ ∃ q, w' = w.drewN q := by
  cases zs with
  | nil =>
    refine (Try.slices_BinarySearch_int_empty sA 0 x w).mono ?_
    rintro e w' ⟨rfl, rfl⟩
    exact ⟨false, rfl, 0, rfl⟩
  | cons z r =>
    obtain ⟨b, off, e, hb, hc⟩ := hA 0 (by rw [IV_len]; simp)
    subst e
    refine (Try.slices_BinarySearch_int b off (z :: r).length (z :: r).length (z :: r) x w (Nat.le_refl _) (by omega) (fun j hj => hc j _ (IV_get _ j hj)) (by rw [List.take_length]; exact sorted_pair _ hs)).mono ?_
    rintro e w' ⟨rfl, q, rfl⟩
    rw [List.take_length]
    exact ⟨_, rfl, q, rfl⟩

theorem zeros_size (m : Nat) : (Builtin.zeroCells (Value.int .i64 0).cells m).size = m := by
  simp [Builtin.zeroCells, Value.cells]

theorem ins_end (zs : List Int) (x : Int) (h : cnt zs x = zs.length) : ins zs x = zs ++ [x] := by
  simp [ins, h]
theorem ints_one (vs : List Int) : ∀ v ∈ IV vs, v.oneCell' = true := by
  intro v hv
  simp [IV] at hv
  obtain ⟨a, _, rfl⟩ := hv
  rfl

/-- slices.Insert (function 24) of one element into a row without room. -/
theorem ins_any (sA : Option Addr) (vb : Nat) (zs : List Int) (x : Int) (w : World) (hlen : zs.length ≤ 65536) (hA : Row w sA (IV zs)) (hv : w.cell? ⟨vb, 0, none⟩ = some (.int .i64 x)) :
    Calls Try.prog 24 #[.slice sA zs.length zs.length, .int .i64 (cnt zs x : Nat), .slice (some ⟨vb, 0, none⟩) 1 1] w fun e w' =>
      ∃ c, e = .returned (.slice (some ⟨w.heap.size, 0, none⟩) (zs.length + 1) c) ∧ Below w.heap.size w w' ∧ Row w' (some ⟨w.heap.size, 0, none⟩) (IV (ins zs x)) := by
  have hvs : ∀ j v, (IV [x])[j]? = some v → w.cell? ⟨vb, 0 + j, none⟩ = some v := by
    intro j v hj
    match j, hj with
    | 0, hj => simp [IV] at hj; subst hj; exact hv
    | j + 1, hj => simp [IV] at hj
  have hcl := cnt_le zs x
  by_cases hce : cnt zs x = zs.length
  · rw [hce]
    refine (Try.slices_Insert_int_end_grow sA zs.length zs.length vb 0 1 1 (IV zs) (IV [x]) w (by omega) (Nat.le_refl _) (by omega) (by omega) (IV_len _) rfl ?_ ?_ hvs (ints_one _)).mono ?_
    · intro e
      cases zs with
      | nil => rfl
      | cons z r =>
        obtain ⟨b, off, e', _⟩ := hA 0 (by rw [IV_len]; simp)
        rw [e] at e'
        cases e'
    · intro a ea j v hj
      have hjl : j < (IV zs).length := (List.getElem?_eq_some_iff.1 hj).1
      obtain ⟨b, off, e, hb, hc⟩ := hA j hjl
      rw [ea] at e
      cases e
      rw [show (⟨b, off, none⟩ : Addr).add j = ⟨b, off + j, none⟩ from by unfold Addr.add; split <;> simp_all]
      exact hc j v hj
    · rintro e w' ⟨rfl, rfl⟩
      refine ⟨_, rfl, (below_drewN (Below.refl _ _) 1).alloc (Nat.le_refl _) _, ?_⟩
      intro k hk
      refine ⟨w.heap.size, 0, rfl, by rw [alloc_size]; exact Nat.lt_succ_self _, ?_⟩
      intro j v hj
      have := (Blk.alloc_new w.drew ((IV zs ++ IV [x]).toArray ++ Builtin.zeroCells (Value.int .i64 0).cells (grownCap w (zs.length + 1) zs.length 3 - (zs.length + 1))) 3).cell (0 + j)
      refine this.trans ?_
      rw [ins_end zs x hce] at hj
      have hj' : (IV zs ++ IV [x])[j]? = some v := by simpa [IV] using hj
      have hjl : j < (IV zs ++ IV [x]).length := (List.getElem?_eq_some_iff.1 hj').1
      rw [Nat.zero_add, Array.getElem?_append_left (by simpa using hjl)]
      simpa using hj'
  · have hlt : cnt zs x < zs.length := by omega
    obtain ⟨b, off, e, hb, hc⟩ := hA 0 (by rw [IV_len]; omega)
    subst e
    refine (Try.slices_Insert_int_grow b off zs.length zs.length (cnt zs x) vb 0 1 1 (IV zs) (IV [x]) w hlt (by omega) (Nat.le_refl _) (by omega) (by omega) (IV_len _) rfl hc hvs (ints_one _) (ints_one _)).mono ?_
    rintro e w' ⟨rfl, hw⟩
    generalize hW0 : w.alloc (.cells (((IV zs).take (cnt zs x)).toArray ++ Builtin.zeroCells (Value.int .i64 0).cells (zs.length + 1 - cnt zs x) ++ Builtin.zeroCells (Value.int .i64 0).cells (grownCap w (zs.length + 1) zs.length 3 - (zs.length + 1))) 3) = W0 at hw
    have hB0 : Below w.heap.size w W0 := by rw [← hW0]; exact (Below.refl _ _).alloc (Nat.le_refl _) _
    have hblk := Blk.alloc_new w (((IV zs).take (cnt zs x)).toArray ++ Builtin.zeroCells (Value.int .i64 0).cells (zs.length + 1 - cnt zs x) ++ Builtin.zeroCells (Value.int .i64 0).cells (grownCap w (zs.length + 1) zs.length 3 - (zs.length + 1))) 3
    rw [hW0] at hblk
    have hsz : w.heap.size < W0.heap.size := hblk.lt
    have hsome : ∀ j, j < zs.length + 1 → (W0.cell? ⟨w.heap.size, j, none⟩).isSome = true := by
      intro j hj
      rw [hblk.cell j]
      simp [zeros_size, IV_len]
      omega
    have hleft : ∀ j, j < cnt zs x → W0.cell? ⟨w.heap.size, j, none⟩ = some (.int .i64 (zs.getD j 0)) := by
      intro j hj
      rw [hblk.cell j, Array.getElem?_append_left (by simp [zeros_size, IV_len]; omega), Array.getElem?_append_left (by simp [IV_len]; omega), List.getElem?_toArray, List.getElem?_take_of_lt hj, IV_get zs j (by omega)]
    clear hblk hW0
    have hB1 : Below w.heap.size w w' := by
      rw [hw]
      exact (below_drewN ((below_drewN hB0 1).trans (Lib.below_setCells_w (Nat.le_refl _) _ _ _)) 1).trans (Lib.below_setCells_w (Nat.le_refl _) _ _ _)
    refine ⟨_, rfl, hB1, ?_⟩
    have hsz2 : w.heap.size < w'.heap.size := by
      rw [hw]
      have h1 := (Lib.below_setCells_w (Nat.le_refl w.heap.size) (IV [x]) (cnt zs x) W0.drew).size
      have h2 := (Lib.below_setCells_w (Nat.le_refl w.heap.size) ((IV zs).drop (cnt zs x)) (cnt zs x + 1) (W0.drew.setCells w.heap.size (cnt zs x) (IV [x])).drew).size
      exact Nat.lt_of_lt_of_le hsz (Nat.le_trans h1 h2)
    intro k hk
    refine ⟨w.heap.size, 0, rfl, hsz2, ?_⟩
    intro j v hj
    have hjl : j < (IV (ins zs x)).length := (List.getElem?_eq_some_iff.1 hj).1
    rw [IV_len, ins_len] at hjl
    rw [IV_get (ins zs x) j (by rw [ins_len]; omega)] at hj
    rw [← hj, Nat.zero_add, hw]
    rcases Nat.lt_trichotomy j (cnt zs x) with h | h | h
    · rw [ins_left zs x j h, World.cell?_setCells_out _ _ _ _ _ (fun _ _ => .inl (by simp; omega))]
      show ((W0.drew.setCells w.heap.size (cnt zs x) (IV [x])).cell? _) = _
      rw [World.cell?_setCells_out _ _ _ _ _ (fun _ _ => .inl (by simpa using h))]
      exact hleft j h
    · subst h
      rw [ins_mid, World.cell?_setCells_out _ _ _ _ _ (fun _ _ => .inl (by simp))]
      show ((W0.drew.setCells w.heap.size (cnt zs x) (IV [x])).cell? _) = _
      exact World.cell?_setCells_in w.heap.size (IV [x]) (cnt zs x) W0.drew (fun i hi => hsome _ (by simp [IV] at hi; omega)) 0 (by simp [IV])
    · obtain ⟨d, rfl⟩ : ∃ d, j = cnt zs x + 1 + d := ⟨j - (cnt zs x + 1), by omega⟩
      have := World.cell?_setCells_in w.heap.size ((IV zs).drop (cnt zs x)) (cnt zs x + 1) (W0.drew.setCells w.heap.size (cnt zs x) (IV [x])).drew (fun i hi => by
        show ((W0.drew.setCells w.heap.size (cnt zs x) (IV [x])).cell? _).isSome = true
        rw [World.cell?_setCells_out _ _ _ _ _ (fun _ _ => .inr (by simp [IV]))]
        exact hsome _ (by simp [IV_len] at hi; omega)) d (by simp [IV_len]; omega)
      rw [this, show cnt zs x + 1 + d = (cnt zs x + d) + 1 from by omega, ins_right zs x _ (by omega)]
      simp [IV, List.getD, show cnt zs x + d < zs.length from by omega]
end Go.Proofs.Qxb6612169a
