/-
  No cell of these rows narrows 'for every input' (looked for: loops, veiled, ifaces, maps, wideKeys, modest, calm, conditions, laid).
  DERIVED. THE GIVEN ROWS OF THIS SEAT. 1 by the template 'for every input the law returns true; each argument reads behind the call as it read before'; 0 by the template 'total and deterministic' (their statements: Qxb6612169aTotals.lean).
  GIVEN WITH THE SEED: the statements are not yours to turn. If you find one false, say at which input.
  Laid BY PROGRAM, IN A SANDBOX (cutbox-rows.mjs): the forced cells as the released guide's own fill.sh prints them over the translation 2f9d1dea76991de9… (all of the seat's roots in one cut). By AI agents, Wed Nov 11 2026. No macro, syntax, notation, axiom, sorry.
-/
import Derived.Test.Qxb6612169aChecked
import GoSem.Claim
import GoSem.ClaimJoined
import GoSem.ClaimMapViews
import Derived.JoinedTies
import Derived.KernelRfl
namespace Go.Proofs.Qxb6612169a
/- THE CELL 'sum', in the pinned program and in every row, IS THE sha256 OF THE DUMP (.gsa) THAT Qxb6612169aProg.lean LOADS. Nothing in Lean hashes anything: it is a label: what it is worth is what the hold of that sum in a sandbox is worth. -/
noncomputable def Try.pinned : Pinned := { name := "qxb6612169a", sum := "2f9d1dea76991de97037e129dfda6725025a293e95066a30b145d4b7eee4af5a", checked := Try.checked }
namespace Rows
def none {H : Type} : Left H := { results := [], args := [] }

/-- 'zzlaws_root_b1.FnSpreadUnmendableMarksOnly': WHATEVER THE INPUT: true; the input reads as it did. -/
def fnSpreadUnmendableMarksOnlySpec : ChangeSpec := { name := "fnSpreadUnmendableMarksOnly", fn := fun _ => fun
  | [d1, d2, d3, d4, d5, d6, d7] => { results := [.lit (.bool true)], args := [d1, d2, d3, d4, d5, d6, d7] }
  | _ => none }
def fnSpreadUnmendableMarksOnlyRow : OpenClaim := { program := "qxb6612169a", sum := "2f9d1dea76991de97037e129dfda6725025a293e95066a30b145d4b7eee4af5a", func := "example.com/resolvent/resolvent/zzlaws_root_b1.FnSpreadUnmendableMarksOnly", spec := "fnSpreadUnmendableMarksOnly", inPlace := ["slices.overlaps[int]"], unfollowed := true, recurses := true, apart := false }
def FnSpreadUnmendableMarksOnlySaid : Prop := fnSpreadUnmendableMarksOnlyRow.holds Try.pinned (OpenSpec.ofChange fnSpreadUnmendableMarksOnlySpec)

/-- ITS FALSE NEIGHBOUR: 'it returns false'. Refute it at one input. -/
def fnSpreadUnmendableMarksOnlyWrong : ChangeSpec := { name := "fnSpreadUnmendableMarksOnly", fn := fun _ => fun
  | [d1, d2, d3, d4, d5, d6, d7] => { results := [.lit (.bool false)], args := [d1, d2, d3, d4, d5, d6, d7] }
  | _ => none }
def FnSpreadUnmendableMarksOnlyWrongFalsely : Prop := fnSpreadUnmendableMarksOnlyRow.holds Try.pinned (OpenSpec.ofChange fnSpreadUnmendableMarksOnlyWrong)

end Rows
end Go.Proofs.Qxb6612169a
