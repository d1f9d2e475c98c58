import Derived.Test.Qxb6609358aDoorFirst
import Derived.ProofKit
import Derived.LaidMore
import Derived.LaidLaws
import Derived.MakeChecks
import Derived.Lib.LaidTab
namespace Go.Proofs.Qxb6609358aDoor
open Go.ChangeShapes Go.WideShapes Go.RowKit

abbrev laidList : List (String × DataW Unit) := Rows.fnFirstByteStepsByByteRow.laid
theorem tab_eq : Rows.laid_math_bits_deBruijn64tab (H := Unit) = Lib.tabData .u8 (Lib.deBruijn64tab.map fun n : Nat => (n : Int)) := by kernel_rfl
theorem cells5 : Tryd.prog.cellsOf 5 = 1 := by kernel_rfl
theorem cells128 : Tryd.prog.cellsOf 128 = 64 := by kernel_rfl

/-- The row's condition gives the walk its table. -/
theorem tab_of_laid {W : World} (h : laidMetH Tryd.prog laidList W) : TabAt W := by
  rw [MakeChecks.laidMetH_plain _ _ _ (by kernel_rfl)] at h
  obtain ⟨ps, ⟨g0, t0, cs0, f0, p0, q0, hg0, ht0, hv0, hd0, _, _⟩, _, _⟩ := h
  obtain rfl : g0 = 3 := Option.some.inj (hg0.symm.trans (by kernel_rfl))
  obtain rfl : t0 = 128 := Option.some.inj (ht0.symm.trans (by kernel_rfl))
  rw [tab_eq] at hd0
  have hc := Lib.cells_of_tab Tryd.underlying128 Tryd.underlying5 cells5 cells128 hd0
  intro j hj
  have hj' : j < 64 := hj
  have := World.var?_cell hg0 hv0 j
  rw [this]
  obtain ⟨l⟩ := cs0
  simp only at hc
  subst hc
  simp [List.getD, hj]
end Go.Proofs.Qxb6609358aDoor
