import Derived.Test.Qxb6612169aFits
namespace Go.Proofs.Qxb6612169a
open Go.RowKit

/-- The cells of an at-most term. -/
def termArr (k count : Int) (sm : Option Addr) (nm cm : Nat) : Array Value := #[.int .i8 0, .int .i64 k, .slice sm nm cm, .int .i64 0, .slice none 0 0, .int .i32 0, .int .i64 count]
theorem newTerm_any (k count : Int) (sm : Option Addr) (nm cm : Nat) (w : World) :
    Calls Try.prog 16 #[.int .i8 0, .int .i64 k, .int .i64 count, .slice sm nm cm, .int .i64 0] w fun e w' => e = .returned (.pointer (some ⟨w.heap.size, 0, none⟩)) ∧ w' = w.alloc (.cells (termArr k count sm nm cm) 50) := by
  go_enter Try.func16, Try.ntmps16
  go_wp2
  go_ret
  exact ⟨rfl, rfl⟩
def searchArr (st ss : Option Addr) (nt ct ns cs : Nat) : Array Value := #[.pointer none, .slice st nt ct, .slice ss ns cs, .slice none 0 0, .slice none 0 0, .slice none 0 0, .slice none 0 0, .int .i64 0, .nilFunc]
theorem newSearch_any (st ss : Option Addr) (nt ct ns cs : Nat) (w : World) :
    Calls Try.prog 17 #[.slice st nt ct, .slice ss ns cs] w fun e w' => e = .returned (.pointer (some ⟨w.heap.size, 0, none⟩)) ∧ w' = w.alloc (.cells (searchArr st ss nt ct ns cs) 56) := by
  go_enter Try.func17, Try.ntmps17
  go_wp2
  go_ret
  exact ⟨rfl, rfl⟩
/-- The cells of a rotation. -/
def rotArr (s : Option Addr) (v1 v2 v3 v4 v5 v8 : Value) : Array Value := #[.pointer s, v1, v2, v3, v4, v5, .slice none 0 0, .slice none 0 0, v8, .int .i64 0]
theorem newRotation_any (s : Option Addr) (s1 s2 s3 s4 s5 s6 : Option Addr) (n1 n2 n3 n4 n5 n6 c1 c2 c3 c4 c5 c6 : Nat) (w : World) :
    Calls Try.prog 18 #[.pointer s, .slice s1 n1 c1, .slice s2 n2 c2, .slice s3 n3 c3, .slice s4 n4 c4, .slice s5 n5 c5, .slice s6 n6 c6] w fun e w' => e = .returned (.pointer (some ⟨w.heap.size, 0, none⟩)) ∧ w' = w.alloc (.cells (rotArr s (.slice s1 n1 c1) (.slice s2 n2 c2) (.slice s3 n3 c3) (.slice s4 n4 c4) (.slice s5 n5 c5) (.slice s6 n6 c6)) 46) := by
  go_enter Try.func18, Try.ntmps18
  go_wp2
  go_ret
  exact ⟨rfl, rfl⟩

/-! ### The rows that zzBuildRotation fills -/
def BInv (w0 wr : World) (H n bn : Nat) (tm : Array Value) (j : Nat) : Prop :=
  Below H w0 wr ∧ H + 4 ≤ wr.heap.size ∧ ∃ aT aA aP aS : Array Value,
    aT.size = n ∧ aA.size = n ∧ aP.size = n ∧ aS.size = n + 1 ∧ Blk wr H aT 37 ∧ Blk wr (H + 1) aA 37 ∧ Blk wr (H + 2) aP 21 ∧ Blk wr (H + 3) aS 21 ∧
    (∀ i, i < j → aS[i]? = some (.int .i32 (i : Int))) ∧
    (bn < j → ∃ t, H + 4 ≤ t ∧ aT[bn]? = some (.pointer (some ⟨t, 0, none⟩)) ∧ aA[bn]? = some (.pointer (some ⟨t, 0, none⟩)) ∧ Blk wr t tm 50)

theorem get_of_lt {a : Array Value} {j : Nat} (h : j < a.size) : ∃ v, a[j]? = some v := ⟨a[j], by simp [h]⟩
theorem set_get_same {a : Array Value} {j : Nat} (h : j < a.size) (v : Value) : (a.setIfInBounds j v)[j]? = some v := by simp [h]
theorem set_get_other {a : Array Value} {i j : Nat} (h : j ≠ i) (v : Value) : (a.setIfInBounds j v)[i]? = a[i]? := by simp [h]

theorem BInv.step {w0 wr : World} {H n bn j : Nat} {tm ta : Array Value} (h : BInv w0 wr H n bn tm j) (hj : j < n) (ht : j = bn → ta = tm) :
    (∃ v1 v2 v3 v4, (wr.alloc (.cells ta 50)).cell? ⟨H, j, none⟩ = some v1 ∧ (wr.alloc (.cells ta 50)).frozen? ⟨H, j, none⟩ = false ∧
    ((wr.alloc (.cells ta 50)).setCell ⟨H, j, none⟩ (.pointer (some ⟨wr.heap.size, 0, none⟩))).cell? ⟨H, j, none⟩ = some (.pointer (some ⟨wr.heap.size, 0, none⟩)) ∧
    ((wr.alloc (.cells ta 50)).setCell ⟨H, j, none⟩ (.pointer (some ⟨wr.heap.size, 0, none⟩))).cell? ⟨H + 1, j, none⟩ = some v2 ∧
    ((wr.alloc (.cells ta 50)).setCell ⟨H, j, none⟩ (.pointer (some ⟨wr.heap.size, 0, none⟩))).frozen? ⟨H + 1, j, none⟩ = false ∧
    (((wr.alloc (.cells ta 50)).setCell ⟨H, j, none⟩ (.pointer (some ⟨wr.heap.size, 0, none⟩))).setCell ⟨H + 1, j, none⟩ (.pointer (some ⟨wr.heap.size, 0, none⟩))).cell? ⟨H + 2, j, none⟩ = some v3 ∧
    (((wr.alloc (.cells ta 50)).setCell ⟨H, j, none⟩ (.pointer (some ⟨wr.heap.size, 0, none⟩))).setCell ⟨H + 1, j, none⟩ (.pointer (some ⟨wr.heap.size, 0, none⟩))).frozen? ⟨H + 2, j, none⟩ = false ∧
    ((((wr.alloc (.cells ta 50)).setCell ⟨H, j, none⟩ (.pointer (some ⟨wr.heap.size, 0, none⟩))).setCell ⟨H + 1, j, none⟩ (.pointer (some ⟨wr.heap.size, 0, none⟩))).setCell ⟨H + 2, j, none⟩ (.int .i32 j)).cell? ⟨H + 3, j, none⟩ = some v4 ∧
    ((((wr.alloc (.cells ta 50)).setCell ⟨H, j, none⟩ (.pointer (some ⟨wr.heap.size, 0, none⟩))).setCell ⟨H + 1, j, none⟩ (.pointer (some ⟨wr.heap.size, 0, none⟩))).setCell ⟨H + 2, j, none⟩ (.int .i32 j)).frozen? ⟨H + 3, j, none⟩ = false) ∧
    BInv w0 (((((wr.alloc (.cells ta 50)).setCell ⟨H, j, none⟩ (.pointer (some ⟨wr.heap.size, 0, none⟩))).setCell ⟨H + 1, j, none⟩ (.pointer (some ⟨wr.heap.size, 0, none⟩))).setCell ⟨H + 2, j, none⟩ (.int .i32 j)).setCell ⟨H + 3, j, none⟩ (.int .i32 j)) H n bn tm (j + 1) := by
  obtain ⟨hB, hs, aT, aA, aP, aS, sT, sA, sP, sS, bT, bA, bP, bS, hst, hbn⟩ := h
  have bt := Blk.alloc_new wr ta 50
  have hBa : Below wr.heap.size wr (wr.alloc (.cells ta 50)) := (Below.refl _ _).alloc (Nat.le_refl _) _
  have bT1 := bT.below hBa bT.lt
  have bA1 := bA.below hBa bA.lt
  have bP1 := bP.below hBa bP.lt
  have bS1 := bS.below hBa bS.lt
  have hB1 : Below H w0 (wr.alloc (.cells ta 50)) := hB.alloc (by omega) _
  have hs1 : H + 4 ≤ (wr.alloc (.cells ta 50)).heap.size := Nat.le_trans hs hBa.size
  have hbn1 : bn < j → ∃ t, H + 4 ≤ t ∧ aT[bn]? = some (.pointer (some ⟨t, 0, none⟩)) ∧ aA[bn]? = some (.pointer (some ⟨t, 0, none⟩)) ∧ Blk (wr.alloc (.cells ta 50)) t tm 50 := by
    intro hb
    obtain ⟨t, h1, h2, h3, h4⟩ := hbn hb
    exact ⟨t, h1, h2, h3, h4.below hBa h4.lt⟩
  clear hbn bT bA bP bS hB
  generalize hq : wr.heap.size = q at *
  generalize wr.alloc (.cells ta 50) = w1 at *
  clear hq hBa wr
  have bT2 := bT1.set j (.pointer (some ⟨q, 0, none⟩))
  have bA2 := bA1.set_other (b' := H) (by omega) j (.pointer (some ⟨q, 0, none⟩))
  have bA3 := bA2.set j (.pointer (some ⟨q, 0, none⟩))
  have bP2 := bP1.set_other (b' := H) (by omega) j (.pointer (some ⟨q, 0, none⟩))
  have bP3 := bP2.set_other (b' := H + 1) (by omega) j (.pointer (some ⟨q, 0, none⟩))
  have bP4 := bP3.set j (.int .i32 j)
  have bS2 := bS1.set_other (b' := H) (by omega) j (.pointer (some ⟨q, 0, none⟩))
  have bS3 := bS2.set_other (b' := H + 1) (by omega) j (.pointer (some ⟨q, 0, none⟩))
  have bS4 := bS3.set_other (b' := H + 2) (by omega) j (.int .i32 j)
  have bS5 := bS4.set j (.int .i32 j)
  obtain ⟨v1, e1⟩ := get_of_lt (a := aT) (j := j) (by omega)
  obtain ⟨v2, e2⟩ := get_of_lt (a := aA) (j := j) (by omega)
  obtain ⟨v3, e3⟩ := get_of_lt (a := aP) (j := j) (by omega)
  obtain ⟨v4, e4⟩ := get_of_lt (a := aS) (j := j) (by omega)
  refine ⟨⟨v1, v2, v3, v4, (bT1.cell j).trans e1, bT1.frozen j, (bT2.cell j).trans (set_get_same (by omega) _), (bA2.cell j).trans e2, bA2.frozen j, (bP3.cell j).trans e3, bP3.frozen j, (bS4.cell j).trans e4, bS4.frozen j⟩, ?_⟩
  refine ⟨(((hB1.setCell (p := ⟨H, j, none⟩) (Nat.le_refl _) _).setCell (p := ⟨H + 1, j, none⟩) (Nat.le_succ _) _).setCell (p := ⟨H + 2, j, none⟩) (Nat.le_add_right _ _) _).setCell (p := ⟨H + 3, j, none⟩) (Nat.le_add_right _ _) _, by simpa [World.setCell] using hs1, _, _, _, _, ?_, ?_, ?_, ?_,
    ((bT2.set_other (b' := H + 1) (by omega) j (.pointer (some ⟨q, 0, none⟩))).set_other (b' := H + 2) (by omega) j (.int .i32 j)).set_other (b' := H + 3) (by omega) j (.int .i32 j),
    (bA3.set_other (b' := H + 2) (by omega) j (.int .i32 j)).set_other (b' := H + 3) (by omega) j (.int .i32 j),
    bP4.set_other (b' := H + 3) (by omega) j (.int .i32 j), bS5, ?_, ?_⟩
  · simpa using sT
  · simpa using sA
  · simpa using sP
  · simpa using sS
  · intro i hi
    by_cases hij : j = i
    · subst hij; exact set_get_same (by omega) _
    · rw [set_get_other hij]; exact hst i (by omega)
  · intro hb
    by_cases hjb : j = bn
    · subst hjb
      rw [ht rfl] at bt
      refine ⟨q, ?_, set_get_same (by omega) _, set_get_same (by omega) _, ?_⟩
      · exact hs
      · exact (((bt.set_other (b' := H) (by omega) j _).set_other (b' := H + 1) (by omega) j _).set_other (b' := H + 2) (by omega) j _).set_other (b' := H + 3) (by omega) j _
    · obtain ⟨t, h1, h2, h3, h4⟩ := hbn1 (by omega)
      refine ⟨t, h1, by rw [set_get_other hjb]; exact h2, by rw [set_get_other hjb]; exact h3, ?_⟩
      exact (((h4.set_other (b' := H) (by omega) j _).set_other (b' := H + 1) (by omega) j _).set_other (b' := H + 2) (by omega) j _).set_other (b' := H + 3) (by omega) j _
theorem info37 : (Try.prog.info? 37).map (fun i => (i.zero, i.size, i.bytes)) = some (some (.pointer none), 1, 8) := by kernel_rfl
theorem info21 : (Try.prog.info? 21).map (fun i => (i.zero, i.size, i.bytes)) = some (some (.int .i32 0), 1, 4) := by kernel_rfl
theorem alloc_size (w : World) (o : Obj) : (w.alloc o).heap.size = w.heap.size + 1 := by
  show (w.heap.push _).size = _
  simp
theorem BInv.start (w : World) (n bn : Nat) (tm : Array Value) (m1 m2 m3 m4 : Array Value) (e1 : m1.size = n) (e2 : m2.size = n) (e3 : m3.size = n) (e4 : m4.size = n + 1) :
    BInv w ((((w.alloc (.cells m1 37)).alloc (.cells m2 37)).alloc (.cells m3 21)).alloc (.cells m4 21)) w.heap.size n bn tm 0 := by
  have b1 := Blk.alloc_new w m1 37
  have b2 := Blk.alloc_new (w.alloc (.cells m1 37)) m2 37
  have b3 := Blk.alloc_new ((w.alloc (.cells m1 37)).alloc (.cells m2 37)) m3 21
  have b4 := Blk.alloc_new (((w.alloc (.cells m1 37)).alloc (.cells m2 37)).alloc (.cells m3 21)) m4 21
  have g1 : Below w.heap.size w (w.alloc (.cells m1 37)) := (Below.refl _ _).alloc (Nat.le_refl _) _
  have g2 : Below (w.alloc (.cells m1 37)).heap.size (w.alloc (.cells m1 37)) ((w.alloc (.cells m1 37)).alloc (.cells m2 37)) := (Below.refl _ _).alloc (Nat.le_refl _) _
  have g3 : Below ((w.alloc (.cells m1 37)).alloc (.cells m2 37)).heap.size ((w.alloc (.cells m1 37)).alloc (.cells m2 37)) (((w.alloc (.cells m1 37)).alloc (.cells m2 37)).alloc (.cells m3 21)) := (Below.refl _ _).alloc (Nat.le_refl _) _
  have g4 : Below (((w.alloc (.cells m1 37)).alloc (.cells m2 37)).alloc (.cells m3 21)).heap.size (((w.alloc (.cells m1 37)).alloc (.cells m2 37)).alloc (.cells m3 21)) ((((w.alloc (.cells m1 37)).alloc (.cells m2 37)).alloc (.cells m3 21)).alloc (.cells m4 21)) := (Below.refl _ _).alloc (Nat.le_refl _) _
  have c1 := ((b1.below g2 b1.lt).below g3 (b1.below g2 b1.lt).lt).below g4 ((b1.below g2 b1.lt).below g3 (b1.below g2 b1.lt).lt).lt
  have c2 := (b2.below g3 b2.lt).below g4 (b2.below g3 b2.lt).lt
  have c3 := b3.below g4 b3.lt
  have s1 : (w.alloc (.cells m1 37)).heap.size = w.heap.size + 1 := alloc_size _ _
  have s2 : ((w.alloc (.cells m1 37)).alloc (.cells m2 37)).heap.size = w.heap.size + 2 := by rw [alloc_size, s1]
  have s3 : (((w.alloc (.cells m1 37)).alloc (.cells m2 37)).alloc (.cells m3 21)).heap.size = w.heap.size + 3 := by rw [alloc_size, s2]
  have s4 : ((((w.alloc (.cells m1 37)).alloc (.cells m2 37)).alloc (.cells m3 21)).alloc (.cells m4 21)).heap.size = w.heap.size + 4 := by rw [alloc_size, s3]
  rw [s1] at c2
  rw [s2] at c3
  rw [s3] at b4
  refine ⟨(((g1.alloc (by omega) _).alloc (by omega) _).alloc (by omega) _), by omega, m1, m2, m3, m4, e1, e2, e3, e4, c1, c2, c3, b4, fun i hi => by omega, fun h => by omega⟩
end Go.Proofs.Qxb6612169a
