import Derived.Test.Qxb6612169aRows
import Derived.WalkKit
import Derived.WalkSpells
import Derived.WalkLawsBesides
import Derived.Outline
import Derived.RowKit3
import Derived.Deep.OwnRows
import Derived.Lib.SliceRun
import Derived.BigQuiet
import Derived.Deep.QuietTactic
namespace Go.Proofs.Qxb6612169a
open Go.RowKit

theorem hide {p : Prop} (h : p) : Hid p := h
theorem below_drewN {B : Nat} {a w : World} (h : Below B a w) (n : Nat) : Below B a (w.drewN n) := h.trans ⟨rfl, rfl, rfl, Nat.le_refl _, fun _ _ => rfl⟩

/-! ### Whole blocks -/
/-- Block b of w holds just these cells, none of them frozen. -/
def Blk (w : World) (b : Nat) (arr : Array Value) (t : TypeId) : Prop := w.heap[b]? = some (.cells arr t (0, 0))

theorem Blk.cell {w : World} {b : Nat} {arr : Array Value} {t : TypeId} (h : Blk w b arr t) (j : Nat) : w.cell? ⟨b, j, none⟩ = arr[j]? := by
  unfold Blk at h
  simp [World.cell?, h]
theorem Blk.frozen {w : World} {b : Nat} {arr : Array Value} {t : TypeId} (h : Blk w b arr t) (j : Nat) : w.frozen? ⟨b, j, none⟩ = false := by
  unfold Blk at h
  simp [World.frozen?, h]
theorem Blk.lt {w : World} {b : Nat} {arr : Array Value} {t : TypeId} (h : Blk w b arr t) : b < w.heap.size := (Array.getElem?_eq_some_iff.1 h).1
theorem Blk.below {w w' : World} {b B : Nat} {arr : Array Value} {t : TypeId} (h : Blk w b arr t) (hB : Below B w w') (hb : b < B) : Blk w' b arr t := (hB.block b hb).trans h
theorem Blk.alloc_new (w : World) (arr : Array Value) (t : TypeId) : Blk (w.alloc (.cells arr t)) w.heap.size arr t := by
  show (w.heap.push _)[w.heap.size]? = _
  simp
theorem Blk.set {w : World} {b : Nat} {arr : Array Value} {t : TypeId} (h : Blk w b arr t) (j : Nat) (v : Value) : Blk (w.setCell ⟨b, j, none⟩ v) b (arr.setIfInBounds j v) t := by
  unfold Blk at h ⊢
  obtain ⟨hlt, he⟩ := Array.getElem?_eq_some_iff.1 h
  simp only [World.setCell, Array.getElem?_modify, if_true, h, Option.map_some]
  rfl
theorem Blk.set_other {w : World} {b b' : Nat} {arr : Array Value} {t : TypeId} (h : Blk w b arr t) (hne : b ≠ b') (j : Nat) (v : Value) : Blk (w.setCell ⟨b', j, none⟩ v) b arr t :=
  (Below.heap_setCell w ⟨b', j, none⟩ v b hne).trans h

/-! ### A row that is filled from the left -/
def fillK (vs : List Value) (z : Value) (k : Nat) : Array Value := (vs.take k ++ List.replicate (vs.length - k) z).toArray
theorem fill_step (vs : List Value) (z : Value) (k : Nat) (hk : k < vs.length) : (fillK vs z k).setIfInBounds k (vs.getD k z) = fillK vs z (k + 1) := by
  have hg : vs.getD k z = vs[k] := by simp [List.getD, hk]
  rw [hg]
  unfold fillK
  rw [List.setIfInBounds_toArray]
  congr 1
  rw [List.set_append_right k vs[k] (by simp; omega)]
  have e : vs.length - k = (vs.length - (k + 1)) + 1 := by omega
  rw [e, List.replicate_succ, List.length_take, Nat.min_eq_left (by omega), Nat.sub_self, List.set_cons_zero, List.take_succ_eq_append_getElem hk, List.append_assoc]
  rfl
theorem fill_full (vs : List Value) (z : Value) : fillK vs z vs.length = vs.toArray := by simp [fillK]
theorem fill_get (vs : List Value) (z : Value) (k : Nat) (hk : k < vs.length) : (fillK vs z k)[k]? = some z := by
  unfold fillK
  rw [List.getElem?_toArray, List.getElem?_append_right (by simp; omega), List.length_take, Nat.min_eq_left (by omega), Nat.sub_self]
  simp [List.getElem?_replicate]
  omega
theorem fill_zero (vs : List Value) (z : Value) : madeCells #[z] vs.length = fillK vs z 0 := by
  apply Array.ext
  · simp [size_madeCells, fillK]
  · intro i h1 h2
    simp [madeCells, fillK, Nat.mod_one]
end Go.Proofs.Qxb6612169a
