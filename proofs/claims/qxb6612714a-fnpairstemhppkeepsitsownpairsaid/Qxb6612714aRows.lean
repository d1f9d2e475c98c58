/-
  No cell of these rows narrows 'for every input' (looked for: loops, veiled, ifaces, maps, wideKeys, modest, calm, conditions, laid).
  DERIVED. THE GIVEN ROWS OF THIS SEAT. 2 by the template 'for every input the law returns true; each argument reads behind the call as it read before'; 0 by the template 'total and deterministic' (their statements: Qxb6612714aTotals.lean).
  GIVEN WITH THE SEED: the statements are not yours to turn. If you find one false, say at which input.
  Laid BY PROGRAM, IN A SANDBOX (cutbox-rows.mjs): the forced cells as the released guide's own fill.sh prints them over the translation 24b2c42fe03de930… (all of the seat's roots in one cut). By AI agents, Wed Nov 11 2026. No macro, syntax, notation, axiom, sorry.
-/
import Derived.Test.Qxb6612714aChecked
import GoSem.Claim
import GoSem.ClaimJoined
import GoSem.ClaimMapViews
import Derived.JoinedTies
import Derived.KernelRfl
namespace Go.Proofs.Qxb6612714a
/- THE CELL 'sum', in the pinned program and in every row, IS THE sha256 OF THE DUMP (.gsa) THAT Qxb6612714aProg.lean LOADS. Nothing in Lean hashes anything: it is a label: what it is worth is what the hold of that sum in a sandbox is worth. -/
noncomputable def Try.pinned : Pinned := { name := "qxb6612714a", sum := "24b2c42fe03de930c42358c356b14ebde7b926d18f01b1408125b2b4a171b92d", checked := Try.checked }
namespace Rows
def none {H : Type} : Left H := { results := [], args := [] }

/-- 'zzlaws_internal_cface_b1.FnPairStemHppKeepsItsOwnPair': WHATEVER THE INPUT: true; the input reads as it did. -/
def fnPairStemHppKeepsItsOwnPairSpec : ChangeSpec := { name := "fnPairStemHppKeepsItsOwnPair", fn := fun _ => fun
  | [d1, d2] => { results := [.lit (.bool true)], args := [d1, d2] }
  | _ => none }
def fnPairStemHppKeepsItsOwnPairRow : OpenClaim := { program := "qxb6612714a", sum := "24b2c42fe03de930c42358c356b14ebde7b926d18f01b1408125b2b4a171b92d", func := "example.com/glazebar/glazebar/zzlaws_internal_cface_b1.FnPairStemHppKeepsItsOwnPair", spec := "fnPairStemHppKeepsItsOwnPair", apart := false }
def FnPairStemHppKeepsItsOwnPairSaid : Prop := fnPairStemHppKeepsItsOwnPairRow.holds Try.pinned (OpenSpec.ofChange fnPairStemHppKeepsItsOwnPairSpec)

/-- ITS FALSE NEIGHBOUR: 'it returns false'. Refute it at one input. -/
def fnPairStemHppKeepsItsOwnPairWrong : ChangeSpec := { name := "fnPairStemHppKeepsItsOwnPair", fn := fun _ => fun
  | [d1, d2] => { results := [.lit (.bool false)], args := [d1, d2] }
  | _ => none }
def FnPairStemHppKeepsItsOwnPairWrongFalsely : Prop := fnPairStemHppKeepsItsOwnPairRow.holds Try.pinned (OpenSpec.ofChange fnPairStemHppKeepsItsOwnPairWrong)

/-- 'zzlaws_internal_cface_b1.FnPairStemModuleFolderFallsAway': WHATEVER THE INPUT: true; the input reads as it did. -/
def fnPairStemModuleFolderFallsAwaySpec : ChangeSpec := { name := "fnPairStemModuleFolderFallsAway", fn := fun _ => fun
  | [d1, d2, d3] => { results := [.lit (.bool true)], args := [d1, d2, d3] }
  | _ => none }
def fnPairStemModuleFolderFallsAwayRow : OpenClaim := { program := "qxb6612714a", sum := "24b2c42fe03de930c42358c356b14ebde7b926d18f01b1408125b2b4a171b92d", func := "example.com/glazebar/glazebar/zzlaws_internal_cface_b1.FnPairStemModuleFolderFallsAway", spec := "fnPairStemModuleFolderFallsAway", apart := false }
def FnPairStemModuleFolderFallsAwaySaid : Prop := fnPairStemModuleFolderFallsAwayRow.holds Try.pinned (OpenSpec.ofChange fnPairStemModuleFolderFallsAwaySpec)

/-- ITS FALSE NEIGHBOUR: 'it returns false'. Refute it at one input. -/
def fnPairStemModuleFolderFallsAwayWrong : ChangeSpec := { name := "fnPairStemModuleFolderFallsAway", fn := fun _ => fun
  | [d1, d2, d3] => { results := [.lit (.bool false)], args := [d1, d2, d3] }
  | _ => none }
def FnPairStemModuleFolderFallsAwayWrongFalsely : Prop := fnPairStemModuleFolderFallsAwayRow.holds Try.pinned (OpenSpec.ofChange fnPairStemModuleFolderFallsAwayWrong)

end Rows
end Go.Proofs.Qxb6612714a
