/-
  NARROWER THAN 'FOR EVERY INPUT', by the rows' own cells (each row's printed sentence says how): FnPlainShowExactLines: ifaces, laid.
  DERIVED. THE GIVEN ROWS OF THIS SEAT. 3 by the template 'for every input the law returns true; each argument reads behind the call as it read before'; 0 by the template 'total and deterministic' (their statements: Qxb6609341aFmtTotals.lean).
  GIVEN WITH THE SEED: the statements are not yours to turn. If you find one false, say at which input.
  Laid BY PROGRAM, IN A SANDBOX (cutbox-rows.mjs): the forced cells as the released guide's own fill.sh prints them over the translation 811ce8fc6ad52556… (all of the seat's roots in one cut). By AI agents, Wed Nov 11 2026. No macro, syntax, notation, axiom, sorry.
-/
import Derived.Test.Qxb6609341aFmtChecked
import GoSem.Claim
import GoSem.ClaimJoined
import GoSem.ClaimMapViews
import Derived.JoinedTies
import Derived.KernelRfl
namespace Go.Proofs.Qxb6609341aFmt
/- THE CELL 'sum', in the pinned program and in every row, IS THE sha256 OF THE DUMP (.gsa) THAT Qxb6609341aFmtProg.lean LOADS. Nothing in Lean hashes anything: it is a label: what it is worth is what the hold of that sum in a sandbox is worth. -/
noncomputable def Tryf.pinned : Pinned := { name := "qxb6609341afmt", sum := "811ce8fc6ad5255627bd78c54ef9bab7a9726dedfbaa093afee3939f2d142191", checked := Tryf.checked }
namespace Rows
def none {H : Type} : Left H := { results := [], args := [] }

/- WHAT THE LISTED PACKAGE-LEVEL VARIABLES READ AS WHEN THE CALL BEGINS. Each datum BY PROGRAM (the guide's laid-datum.mjs) off the statement by which the dump's own 'gosem.cut.vars' lays the variable. In a bare row this is a premise. The card (Qxb6609341aFmtCards.lean) ties it to the program's text. -/
def laid_example_com_convene_convene_scenario_plainShows {H : Type} : DataW H := .slice [.agg [.lit (.string [112, 103, 115]), .iface "example.com/convene/convene/scenario.ShowPGs" (.agg [])], .agg [.lit (.string [112, 101, 101, 114, 105, 110, 103, 45, 99, 111, 115, 116]), .iface "example.com/convene/convene/scenario.ShowPeeringCost" (.agg [])]] []

/-- 'zzlaws_scenario_b1.FnPlainShowExactLines': WHATEVER THE INPUT: true; the input reads as it did. -/
def fnPlainShowExactLinesSpec : ChangeSpec := { name := "fnPlainShowExactLines", vars := ["example.com/convene/convene/scenario.plainShows"], fn := fun _ => fun
  | [g1] => { results := [.lit (.bool true)], args := [], vars := [g1] }
  | _ => none }
def fnPlainShowExactLinesRow : OpenClaim := { program := "qxb6609341afmt", sum := "811ce8fc6ad5255627bd78c54ef9bab7a9726dedfbaa093afee3939f2d142191", func := "example.com/convene/convene/zzlaws_scenario_b1.FnPlainShowExactLines", spec := "fnPlainShowExactLines", stops := ["fmt.Sprintf, its operands' methods called", "fmt.errorf"], inPlace := ["fmt.Sprintf"], unfollowed := true, recurses := true, named := ["example.com/convene/convene/scenario.plainShows"], ifaces := true, plainKeys := false, apart := false, laid := [("example.com/convene/convene/scenario.plainShows", laid_example_com_convene_convene_scenario_plainShows)] }
/-- NO THEOREM (fmt's text is open here; it may be false): for the released tool's asking of the row's closed facts alone. THE STATEMENT IS 'FnPlainShowExactLinesToldSaid' (Qxb6609341aFmtCards.lean). -/
def FnPlainShowExactLinesFormAsk : Prop := fnPlainShowExactLinesRow.holds Tryf.pinned (OpenSpec.ofChange fnPlainShowExactLinesSpec)

/-- ITS FALSE NEIGHBOUR: 'it returns false'. Refute it at one input. -/
def fnPlainShowExactLinesWrong : ChangeSpec := { name := "fnPlainShowExactLines", vars := ["example.com/convene/convene/scenario.plainShows"], fn := fun _ => fun
  | [g1] => { results := [.lit (.bool false)], args := [], vars := [g1] }
  | _ => none }
def FnPlainShowExactLinesWrongFormAsk : Prop := fnPlainShowExactLinesRow.holds Tryf.pinned (OpenSpec.ofChange fnPlainShowExactLinesWrong)

/-- 'zzlaws_scenario_b1.FnRefusalAgainstSets': WHATEVER THE INPUT: true; the input reads as it did. -/
def fnRefusalAgainstSetsSpec : ChangeSpec := { name := "fnRefusalAgainstSets", fn := fun _ => fun
  | [d1, d2, d3, d4, d5, d6] => { results := [.lit (.bool true)], args := [d1, d2, d3, d4, d5, d6] }
  | _ => none }
def fnRefusalAgainstSetsRow : OpenClaim := { program := "qxb6609341afmt", sum := "811ce8fc6ad5255627bd78c54ef9bab7a9726dedfbaa093afee3939f2d142191", func := "example.com/convene/convene/zzlaws_scenario_b1.FnRefusalAgainstSets", spec := "fnRefusalAgainstSets", stops := ["fmt.Sprintf, its operands' methods called", "fmt.errorf"], inPlace := ["fmt.errorf"], plainKeys := false, apart := false }
/-- NO THEOREM (fmt's text is open here; it may be false): for the released tool's asking of the row's closed facts alone. THE STATEMENT IS 'FnRefusalAgainstSetsToldSaid' (Qxb6609341aFmtCards.lean). -/
def FnRefusalAgainstSetsFormAsk : Prop := fnRefusalAgainstSetsRow.holds Tryf.pinned (OpenSpec.ofChange fnRefusalAgainstSetsSpec)

/-- ITS FALSE NEIGHBOUR: 'it returns false'. Refute it at one input. -/
def fnRefusalAgainstSetsWrong : ChangeSpec := { name := "fnRefusalAgainstSets", fn := fun _ => fun
  | [d1, d2, d3, d4, d5, d6] => { results := [.lit (.bool false)], args := [d1, d2, d3, d4, d5, d6] }
  | _ => none }
def FnRefusalAgainstSetsWrongFormAsk : Prop := fnRefusalAgainstSetsRow.holds Tryf.pinned (OpenSpec.ofChange fnRefusalAgainstSetsWrong)

/-- 'zzlaws_scenario_b1.FnRefusalOfZeroState': WHATEVER THE INPUT: true; the input reads as it did. -/
def fnRefusalOfZeroStateSpec : ChangeSpec := { name := "fnRefusalOfZeroState", fn := fun _ => fun
  | [d1, d2, d3, d4] => { results := [.lit (.bool true)], args := [d1, d2, d3, d4] }
  | _ => none }
def fnRefusalOfZeroStateRow : OpenClaim := { program := "qxb6609341afmt", sum := "811ce8fc6ad5255627bd78c54ef9bab7a9726dedfbaa093afee3939f2d142191", func := "example.com/convene/convene/zzlaws_scenario_b1.FnRefusalOfZeroState", spec := "fnRefusalOfZeroState", stops := ["fmt.Sprintf, its operands' methods called", "fmt.errorf"], inPlace := ["fmt.errorf"], plainKeys := false, apart := false }
/-- NO THEOREM (fmt's text is open here; it may be false): for the released tool's asking of the row's closed facts alone. THE STATEMENT IS 'FnRefusalOfZeroStateToldSaid' (Qxb6609341aFmtCards.lean). -/
def FnRefusalOfZeroStateFormAsk : Prop := fnRefusalOfZeroStateRow.holds Tryf.pinned (OpenSpec.ofChange fnRefusalOfZeroStateSpec)

/-- ITS FALSE NEIGHBOUR: 'it returns false'. Refute it at one input. -/
def fnRefusalOfZeroStateWrong : ChangeSpec := { name := "fnRefusalOfZeroState", fn := fun _ => fun
  | [d1, d2, d3, d4] => { results := [.lit (.bool false)], args := [d1, d2, d3, d4] }
  | _ => none }
def FnRefusalOfZeroStateWrongFormAsk : Prop := fnRefusalOfZeroStateRow.holds Tryf.pinned (OpenSpec.ofChange fnRefusalOfZeroStateWrong)

end Rows
end Go.Proofs.Qxb6609341aFmt
