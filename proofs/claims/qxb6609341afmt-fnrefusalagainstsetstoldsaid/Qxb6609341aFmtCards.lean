/-
  DERIVED. GIVEN WITH THE SEED: THE CARDS: each row of Qxb6609341aFmtRows.lean that lists a variable, with what it lists TIED to the program's text (the seventh form; the later family's looks); each row that meets fmt, with fmt's text TOLD by the authors' own Lean function (tested against real Go, not proved from fmt's source: count such statements apart). THE CARD IS WHAT COUNTS. Prove the row's statement (the work); the ties are given (Qxb6609341aFmtTie.lean); close each card by the builder's one call (the guide's Derived/Test/ToyasCard.lean, 'card_holds'). Laid BY PROGRAM, IN A SANDBOX (cutbox-door.mjs). By AI agents, Wed Nov 11 2026. No macro, syntax, notation, axiom, sorry.
-/
import Derived.Test.Qxb6609341aFmtRows
import GoSem.ClaimSeven
namespace Go.Proofs.Qxb6609341aFmt
namespace Rows

/-- THE TOLD AND TIED CARD OF 'zzlaws_scenario_b1.FnPlainShowExactLines'. -/
def fnPlainShowExactLinesCard : Claim7 := { stood := { row := fnPlainShowExactLinesRow, standIns := [], harness := (true, "734efbbe949b84cbaf1f1e1418e16c860a8319ef7546d9ceba9bcf4e56a23202"), looks := true }, told := true, laidByText := true, laidKinds := [.wider], laidTests := true, laidLooks := .later, goes := false }
def FnPlainShowExactLinesToldSaid : Prop := Claim7.holds Tryf.pinned (.plain (OpenSpec.ofChange fnPlainShowExactLinesSpec)) fnPlainShowExactLinesCard
/-- ITS FALSE NEIGHBOUR. Refute it at one input. -/
def FnPlainShowExactLinesToldWrongFalsely : Prop := Claim7.holds Tryf.pinned (.plain (OpenSpec.ofChange fnPlainShowExactLinesWrong)) fnPlainShowExactLinesCard

/-- THE TOLD CARD OF 'zzlaws_scenario_b1.FnRefusalAgainstSets'. -/
def fnRefusalAgainstSetsCard : Claim7 := { stood := { row := fnRefusalAgainstSetsRow, standIns := [], harness := (true, "734efbbe949b84cbaf1f1e1418e16c860a8319ef7546d9ceba9bcf4e56a23202"), looks := true }, told := true, goes := false }
def FnRefusalAgainstSetsToldSaid : Prop := Claim7.holds Tryf.pinned (.plain (OpenSpec.ofChange fnRefusalAgainstSetsSpec)) fnRefusalAgainstSetsCard
/-- ITS FALSE NEIGHBOUR. Refute it at one input. -/
def FnRefusalAgainstSetsToldWrongFalsely : Prop := Claim7.holds Tryf.pinned (.plain (OpenSpec.ofChange fnRefusalAgainstSetsWrong)) fnRefusalAgainstSetsCard

/-- THE TOLD CARD OF 'zzlaws_scenario_b1.FnRefusalOfZeroState'. -/
def fnRefusalOfZeroStateCard : Claim7 := { stood := { row := fnRefusalOfZeroStateRow, standIns := [], harness := (true, "734efbbe949b84cbaf1f1e1418e16c860a8319ef7546d9ceba9bcf4e56a23202"), looks := true }, told := true, goes := false }
def FnRefusalOfZeroStateToldSaid : Prop := Claim7.holds Tryf.pinned (.plain (OpenSpec.ofChange fnRefusalOfZeroStateSpec)) fnRefusalOfZeroStateCard
/-- ITS FALSE NEIGHBOUR. Refute it at one input. -/
def FnRefusalOfZeroStateToldWrongFalsely : Prop := Claim7.holds Tryf.pinned (.plain (OpenSpec.ofChange fnRefusalOfZeroStateWrong)) fnRefusalOfZeroStateCard
end Rows
end Go.Proofs.Qxb6609341aFmt
