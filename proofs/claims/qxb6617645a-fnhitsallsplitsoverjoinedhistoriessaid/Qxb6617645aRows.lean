/-
  No cell of these rows narrows 'for every input' (looked for: loops, veiled, ifaces, maps, wideKeys, modest, calm, conditions, laid).
  DERIVED. THE GIVEN ROWS OF THIS SEAT. 2 by the template 'for every input the law returns true; each argument reads behind the call as it read before'; 0 by the template 'total and deterministic' (their statements: Qxb6617645aTotals.lean).
  GIVEN WITH THE SEED: the statements are not yours to turn. If you find one false, say at which input.
  Laid BY PROGRAM, IN A SANDBOX (cutbox-rows.mjs): the forced cells as the released guide's own fill.sh prints them over the translation b960d581e07397ca… (all of the seat's roots in one cut). By AI agents, Wed Nov 11 2026. No macro, syntax, notation, axiom, sorry.
-/
import Derived.Test.Qxb6617645aChecked
import GoSem.Claim
import GoSem.ClaimJoined
import GoSem.ClaimMapViews
import Derived.JoinedTies
import Derived.KernelRfl
namespace Go.Proofs.Qxb6617645a
/- THE CELL 'sum', in the pinned program and in every row, IS THE sha256 OF THE DUMP (.gsa) THAT Qxb6617645aProg.lean LOADS. Nothing in Lean hashes anything: it is a label: what it is worth is what the hold of that sum in a sandbox is worth. -/
noncomputable def Try.pinned : Pinned := { name := "qxb6617645a", sum := "b960d581e07397ca569ba64b5a865f67aeaf07de466b35bd0f5bbe607032cde5", checked := Try.checked }
namespace Rows
def none {H : Type} : Left H := { results := [], args := [] }

/-- 'zzlaws_detector_b1.FnHitsAllSplitsOverJoinedHistories': WHATEVER THE INPUT: true; the input reads as it did. -/
def fnHitsAllSplitsOverJoinedHistoriesSpec : ChangeSpec := { name := "fnHitsAllSplitsOverJoinedHistories", fn := fun _ => fun
  | [d1, d2, d3, d4] => { results := [.lit (.bool true)], args := [d1, d2, d3, d4] }
  | _ => none }
def fnHitsAllSplitsOverJoinedHistoriesRow : OpenClaim := { program := "qxb6617645a", sum := "b960d581e07397ca569ba64b5a865f67aeaf07de466b35bd0f5bbe607032cde5", func := "example.com/oraculum/oraculum/zzlaws_detector_b1.FnHitsAllSplitsOverJoinedHistories", spec := "fnHitsAllSplitsOverJoinedHistories", apart := false }
def FnHitsAllSplitsOverJoinedHistoriesSaid : Prop := fnHitsAllSplitsOverJoinedHistoriesRow.holds Try.pinned (OpenSpec.ofChange fnHitsAllSplitsOverJoinedHistoriesSpec)

/-- ITS FALSE NEIGHBOUR: 'it returns false'. Refute it at one input. -/
def fnHitsAllSplitsOverJoinedHistoriesWrong : ChangeSpec := { name := "fnHitsAllSplitsOverJoinedHistories", fn := fun _ => fun
  | [d1, d2, d3, d4] => { results := [.lit (.bool false)], args := [d1, d2, d3, d4] }
  | _ => none }
def FnHitsAllSplitsOverJoinedHistoriesWrongFalsely : Prop := fnHitsAllSplitsOverJoinedHistoriesRow.holds Try.pinned (OpenSpec.ofChange fnHitsAllSplitsOverJoinedHistoriesWrong)

/-- 'zzlaws_detector_b1.FnHitsAllMonotoneInTheSet': WHATEVER THE INPUT: true; the input reads as it did. -/
def fnHitsAllMonotoneInTheSetSpec : ChangeSpec := { name := "fnHitsAllMonotoneInTheSet", fn := fun _ => fun
  | [d1, d2, d3] => { results := [.lit (.bool true)], args := [d1, d2, d3] }
  | _ => none }
def fnHitsAllMonotoneInTheSetRow : OpenClaim := { program := "qxb6617645a", sum := "b960d581e07397ca569ba64b5a865f67aeaf07de466b35bd0f5bbe607032cde5", func := "example.com/oraculum/oraculum/zzlaws_detector_b1.FnHitsAllMonotoneInTheSet", spec := "fnHitsAllMonotoneInTheSet", apart := false }
def FnHitsAllMonotoneInTheSetSaid : Prop := fnHitsAllMonotoneInTheSetRow.holds Try.pinned (OpenSpec.ofChange fnHitsAllMonotoneInTheSetSpec)

/-- ITS FALSE NEIGHBOUR: 'it returns false'. Refute it at one input. -/
def fnHitsAllMonotoneInTheSetWrong : ChangeSpec := { name := "fnHitsAllMonotoneInTheSet", fn := fun _ => fun
  | [d1, d2, d3] => { results := [.lit (.bool false)], args := [d1, d2, d3] }
  | _ => none }
def FnHitsAllMonotoneInTheSetWrongFalsely : Prop := fnHitsAllMonotoneInTheSetRow.holds Try.pinned (OpenSpec.ofChange fnHitsAllMonotoneInTheSetWrong)

end Rows
end Go.Proofs.Qxb6617645a
