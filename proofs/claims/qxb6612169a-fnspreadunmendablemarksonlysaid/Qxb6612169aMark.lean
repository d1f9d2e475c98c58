import Derived.Test.Qxb6612169aIns
namespace Go.Proofs.Qxb6612169a
open Go.RowKit

theorem Blk.ne {w : World} {a b : Nat} {x y : Array Value} {t u : TypeId} (ha : Blk w a x t) (hb : Blk w b y u) (h : t ≠ u) : a ≠ b := by
  intro e
  subst e
  unfold Blk at ha hb
  rw [ha] at hb
  injection hb with hb
  injection hb with h1 h2
  exact h h2
theorem Blk.drewN {w : World} {b : Nat} {x : Array Value} {t : TypeId} (h : Blk w b x t) (q : Nat) : Blk (w.drewN q) b x t := h

/-- What mark leaves. -/
def Marked (w w' : World) (R nb bn : Nat) (bs : List Bool) (zs : List Int) (s : Option Addr) (v3 v4 v5 v8 : Value) : Prop :=
  (∀ B, B ≤ nb → B ≤ R → B ≤ w.heap.size → Below B w w') ∧ (∀ b, b < w.heap.size → b ≠ nb → b ≠ R → w'.heap[b]? = w.heap[b]?) ∧ Blk w' nb (BV (bs.set bn true)).toArray 4 ∧
  ∃ ab c, Blk w' R (rotArr s (.slice (some ⟨nb, 0, none⟩) bs.length bs.length) (.slice (some ⟨ab, 0, none⟩) (zs.length + 1) c) v3 v4 v5 v8) 46 ∧ Row w' (some ⟨ab, 0, none⟩) (IV (ins zs bn))

set_option maxRecDepth 100000 in
set_option maxHeartbeats 1000000 in
/-- mark (function 20). -/
theorem mark_any (R nb bn : Nat) (bs : List Bool) (zs : List Int) (s sA : Option Addr) (v3 v4 v5 v8 : Value) (w : World)
    (hRB : Blk w R (rotArr s (.slice (some ⟨nb, 0, none⟩) bs.length bs.length) (.slice sA zs.length zs.length) v3 v4 v5 v8) 46)
    (hN : Blk w nb (BV bs).toArray 4) (hA : ∃ ab, Fresh w ab sA (IV zs) 3) (hb : bn < bs.length) (hz : zs.length ≤ 65536) (hs : ∀ i, i + 1 < zs.length → zs.getD i 0 < zs.getD (i + 1) 0) :
    Calls Try.prog 20 #[.pointer (some ⟨R, 0, none⟩), .int .i64 bn] w fun e w' => e = .returned (.tuple #[]) ∧ Marked w w' R nb bn bs zs s v3 v4 v5 v8 := by
  have hne : nb ≠ R := hN.ne hRB (by decide)
  have f1 : w.cell? ⟨R, 1, none⟩ = some (.slice (some ⟨nb, 0, none⟩) bs.length bs.length) := (hRB.cell 1).trans rfl
  have f2 : w.cell? ⟨nb, bn, none⟩ = some (.bool (bs.getD bn false)) := by rw [hN.cell bn, List.getElem?_toArray, BV_get bs bn hb]
  have g2 := hN.frozen bn
  have hR1 := hRB.set_other (b' := nb) (Ne.symm hne) bn (.bool true)
  have hN1 : Blk (w.setCell ⟨nb, bn, none⟩ (.bool true)) nb (BV (bs.set bn true)).toArray 4 := by
    have := hN.set bn (.bool true)
    rw [List.setIfInBounds_toArray] at this
    simpa [BV] using this
  have hA1 : Row (w.setCell ⟨nb, bn, none⟩ (.bool true)) sA (IV zs) := by
    obtain ⟨ab, hF⟩ := hA
    have : Fresh (w.setCell ⟨nb, bn, none⟩ (.bool true)) ab sA (IV zs) 3 := by
      rcases hF with h | ⟨e, h⟩
      · exact .inl h
      · exact .inr ⟨e, h.set_other (h.ne hN (by decide)) bn _⟩
    exact this.row
  have hB1 : ∀ B, B ≤ nb → Below B w (w.setCell ⟨nb, bn, none⟩ (.bool true)) := fun B h => (Below.refl _ _).setCell (p := ⟨nb, bn, none⟩) h _
  have hO1 : ∀ b, b ≠ nb → (w.setCell ⟨nb, bn, none⟩ (.bool true)).heap[b]? = w.heap[b]? := fun b h => Below.heap_setCell w ⟨nb, bn, none⟩ _ b h
  have HR1 := hide hR1
  have HN1 := hide hN1
  have HA1 := hide hA1
  have HB1 := hide hB1
  have HO1 := hide hO1
  have Hs := hide hs
  clear hR1 hN1 hA1 hB1 hO1 hs hA hRB hN
  generalize bs.getD bn false = xb at f2
  have f3 : (w.setCell ⟨nb, bn, none⟩ (.bool true)).cell? ⟨R, 2, none⟩ = some (.slice sA zs.length zs.length) := (HR1.out.cell 2).trans rfl
  have hsz : (w.setCell ⟨nb, bn, none⟩ (.bool true)).heap.size = w.heap.size := by simp [World.setCell]
  have Hsz := hide hsz
  clear hsz
  go_enter Try.func20, Try.ntmps20
  go_wp2_with fail
  generalize w.setCell ⟨nb, bn, none⟩ (.bool true) = W1 at HR1 HN1 HA1 HB1 HO1 Hsz f3 ⊢
  clear f1 f2 g2
  refine (bin_any sA zs bn W1 hz HA1.out Hs.out).mono ?_
  rintro e w2 ⟨f, rfl, q, hw⟩
  have hR2 : Blk w2 R (rotArr s (.slice (some ⟨nb, 0, none⟩) bs.length bs.length) (.slice sA zs.length zs.length) v3 v4 v5 v8) 46 := by rw [hw]; exact HR1.out.drewN q
  have hN2 : Blk w2 nb (BV (bs.set bn true)).toArray 4 := by rw [hw]; exact HN1.out.drewN q
  have hA2 : Row w2 sA (IV zs) := by rw [hw]; exact HA1.out
  have hB2 : ∀ B, B ≤ nb → Below B w w2 := by intro B h; rw [hw]; exact below_drewN (HB1.out B h) q
  have hO2 : ∀ b, b ≠ nb → w2.heap[b]? = w.heap[b]? := by intro b h; rw [hw]; exact HO1.out b h
  have hsz2 : w2.heap.size = w.heap.size := by rw [hw]; exact Hsz.out
  have f4 : w2.cell? ⟨R, 2, none⟩ = some (.slice sA zs.length zs.length) := by rw [hw]; exact f3
  have HR2 := hide hR2
  have HN2 := hide hN2
  have HA2 := hide hA2
  have HB2 := hide hB2
  have HO2 := hide hO2
  have Hsz2 := hide hsz2
  clear hR2 hN2 hA2 hB2 hO2 hsz2 HR1 HN1 HA1 HB1 HO1 Hsz f3 hw W1
  go_wp2_with fail
  have hBa : Below w2.heap.size w2 (w2.alloc (.cells #[.int .i64 bn] 3)) := (Below.refl _ _).alloc (Nat.le_refl _) _
  refine (ins_any sA w2.heap.size zs bn _ hz (HA2.out.below hBa) (by simp)).mono ?_
  rintro e w3 ⟨c, rfl, hB3, hRow⟩
  rw [alloc_size] at hB3 hRow
  have hB23 : Below w2.heap.size w2 w3 := hBa.trans (hB3.mono (Nat.le_succ _))
  have hR3 := HR2.out.below hB23 HR2.out.lt
  have hN3 := HN2.out.below hB23 HN2.out.lt
  have f5 : w3.cell? ⟨R, 2, none⟩ = some (.slice sA zs.length zs.length) := (hR3.cell 2).trans rfl
  have g5 := hR3.frozen 2
  rw [alloc_size]
  have HR3 := hide hR3
  have HN3 := hide hN3
  have HB23 := hide hB23
  have HRow := hide hRow
  clear hR3 hN3 hB23 hRow hBa hB3 f4
  go_wp2
  go_end0
  refine ⟨rfl, ?_, ?_, ?_, w2.heap.size + 1, c, ?_, ?_⟩
  · intro B h1 h2 h3
    exact ((HB2.out B h1).trans (HB23.out.mono (by rw [Hsz2.out]; exact h3))).setCell (p := ⟨R, 2, none⟩) h2 _
  · intro b hb1 hb2 hb3
    rw [Below.heap_setCell _ ⟨R, 2, none⟩ _ b hb3, HB23.out.block b (by rw [Hsz2.out]; exact hb1)]
    exact HO2.out b hb2
  · exact HN3.out.set_other hne 2 _
  · exact HR3.out.set 2 _
  · intro k hk
    obtain ⟨b, off, e, hb, hc⟩ := HRow.out k hk
    cases e
    refine ⟨_, _, rfl, by simpa [World.setCell] using hb, fun j v hj => ?_⟩
    have hlt := HR2.out.lt
    have hne2 : (⟨R, 2, none⟩ : Addr) ≠ ⟨w2.heap.size + 1, 0 + j, none⟩ := by
      intro e
      injection e with e
      omega
    rw [World.cell?_setCell_other _ _ _ _ hne2]
    exact hc j v hj
end Go.Proofs.Qxb6612169a
