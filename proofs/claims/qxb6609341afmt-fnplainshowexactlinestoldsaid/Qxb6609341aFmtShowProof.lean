/- The proof of 'Rows.FnPlainShowExactLinesToldSaid'. -/
import Derived.Test.Qxb6609341aFmtRows
import Derived.Test.Qxb6609341aFmtTie
import Derived.Test.Qxb6609341aFmtCards
import Derived.Test.Qxb6609341aFmtShow
import Derived.Test.Qxb6609341aFmtLaid
import Derived.OpenVars
import Derived.SevenTiedAt
import Derived.Stop.JoinedTold
import Derived.Deep.DeepWitnessRef
namespace Go.Proofs.Qxb6609341aFmt.ShowProof
open Go.ChangeShapes Go.WideShapes Go.ChangeAt Go.RowKit
open Go.Extern.Stop Go.Stop Go.Extern

theorem own : ownKnob Tryf.prog.godebug = none := by kernel_rfl
theorem laidOut : laidOutB Tryf.prog = true := by kernel_rfl

/-- The door's own heap meets the condition. -/
theorem door_met (os : Os) (args : Array Value) : laidMetH Tryf.prog Rows.fnPlainShowExactLinesRow.laid ((World.doorLaid Tryf.prog 20 os).forCall (fun _ _ => 0) ⟨#[], args, []⟩).memory :=
  laidMetH_of_parts3 (fuel := 8) (laidMet_of_run' 8 (by kernel_rfl) (by kernel_rfl)) (by kernel_rfl) (by kernel_rfl)

theorem one_of {H : Type} {enc : TypeId × Value → H} {P : Program} {w : World} {sp : Nat → Bool} {n : String} {ps : List MemPlace} : ∀ {gs : List (DataW H)}, DataW.TrodVars enc P w sp [n] gs ps → ∃ g, gs = [g]
  | [], h => h.elim
  | [g], _ => ⟨g, rfl⟩
  | _ :: _ :: _, h => by
    obtain ⟨_, _, _, _, _, _, _, _, _, _, h, _⟩ := h
    exact h.elim

abbrev spec : OpenSpec := OpenSpec.ofChange Rows.fnPlainShowExactLinesSpec

set_option maxRecDepth 100000 in
theorem lifted (os : Os) (started : os.Started) (H : Type) (enc : TypeId × Value → H) :
    ReturnsInTold none {} Tryf.checked os 3 .any Input.okWide (spec.preRow enc Tryf.prog Tryf.f3 [] false Rows.fnPlainShowExactLinesRow.laid) (fun F => (spec.at F).post enc Tryf.prog Tryf.f3 false true false false) (aloneAtReturn Tryf.prog) nothingAlways := by
  refine returnsInTold_of_row (C := Tryf.checked) (s := spec) (by kernel_rfl) own started (by kernel_rfl) Tryf.func3
    (OpenSpec.witness_stopped_atRef (enc := enc) (C := Tryf.checked) (os := os) false (World.doorLaid Tryf.prog 20 os) #[] rfl (by kernel_rfl) (by kernel_rfl) (by kernel_rfl)
      (OpenSpec.preRow_of_B rfl 8 (by kernel_rfl) (by kernel_rfl) (door_met os _))) ?_
  intro F W base args ds gs before _ hF hval0 hW _ _ _ hL _
  have hW' := hW
  obtain ⟨p, q, hA0, hV, rfl, hfz, hnd⟩ := hW
  have hA : DataW.TrodAll enc Tryf.prog W 0 (fun _ => true) true Tryf.f3.params.toList args.toList ds p := hA0
  rw [Tryf.params3] at hA
  obtain ⟨hargs, rfl, rfl⟩ := trodAll_none hA
  obtain rfl : args = #[] := by cases args; simp_all
  obtain ⟨g, rfl⟩ := one_of hV
  obtain ⟨b, off, hS, hb⟩ := shows_of_laid hL
  refine (law_show b off W hS hb).mono fun e W' ⟨he, hB⟩ => ?_
  subst he
  exact ⟨_, rfl, _, _, _, [], [], q, hW', trodAll_mk1 (shut_bool Tryf.underlying4 _), trodAll_mk0, hB.trodVars laidOut (by kernel_rfl) hV, hB.frame _, fun h => by cases h⟩
theorem quiet (os : Os) : Stop.quiet Tryf.pinned.checked.prog os := by
  intro k hk
  rw [show Tryf.pinned.checked.prog.stopKnobs = [] from by kernel_rfl] at hk
  cases hk

theorem proved : Rows.FnPlainShowExactLinesToldSaid :=
  Claim7.holds_of_told_tied_any_at .later 3 Tryf.f3 _ _ [] _ _ _ _ _ (by kernel_rfl) rfl rfl rfl laidOut (by kernel_rfl) rfl ⟨rfl, rfl, rfl, rfl, rfl, rfl, rfl⟩ rfl rfl (by kernel_rfl) (by kernel_rfl) Tryf.func3 (by kernel_rfl)
    (of_decide_eq_true (by kernel_rfl)) (by unfold Func.isWrapper; first | (rw [if_pos (by decide +kernel)]; kernel_rfl) | (rw [if_neg (by decide +kernel)]; exact ⟨rfl, rfl⟩)) (by kernel_rfl) rfl (by kernel_rfl) (by kernel_rfl)
    (by kernel_rfl) (by kernel_rfl) (by kernel_rfl) (by kernel_rfl) (by kernel_rfl) (by kernel_rfl) (by kernel_rfl) (by kernel_rfl) (by kernel_rfl) rfl (by kernel_rfl) rfl rfl
    rfl rfl
    rfl (by kernel_rfl) (by kernel_rfl) (by kernel_rfl) (by decide) (by kernel_rfl) fnPlainShowExactLines_row_tie
    (OpenClaim.moreEntering_of (by kernel_rfl) (by kernel_rfl) (by kernel_rfl) (by kernel_rfl) (by kernel_rfl) (by kernel_rfl) (by kernel_rfl) (by kernel_rfl) (by kernel_rfl) (by kernel_rfl))
    ⟨_, WideRow.started_initial, quiet _⟩
    (fun os started _ H enc _ => lifted os started H enc)
end Go.Proofs.Qxb6609341aFmt.ShowProof
