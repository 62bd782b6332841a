/-
  No cell of these rows narrows 'for every input' (looked for: loops, veiled, ifaces, maps, wideKeys, modest, calm, conditions, laid).
  DERIVED. THE GIVEN ROWS OF THIS SEAT. 1 by the template 'for every input the law returns true; each argument reads behind the call as it read before'; 0 by the template 'total and deterministic' (their statements: Qxb6617674aTotals.lean).
  GIVEN WITH THE SEED: the statements are not yours to turn. If you find one false, say at which input.
  Laid BY PROGRAM, IN A SANDBOX (cutbox-rows.mjs): the forced cells as the released guide's own fill.sh prints them over the translation 01594e3a78705a61… (all of the seat's roots in one cut). By AI agents, Wed Nov 11 2026. No macro, syntax, notation, axiom, sorry.
-/
import Derived.Test.Qxb6617674aChecked
import GoSem.Claim
import GoSem.ClaimJoined
import GoSem.ClaimMapViews
import Derived.JoinedTies
import Derived.KernelRfl
namespace Go.Proofs.Qxb6617674a
/- THE CELL 'sum', in the pinned program and in every row, IS THE sha256 OF THE DUMP (.gsa) THAT Qxb6617674aProg.lean LOADS. Nothing in Lean hashes anything: it is a label: what it is worth is what the hold of that sum in a sandbox is worth. -/
noncomputable def Try.pinned : Pinned := { name := "qxb6617674a", sum := "01594e3a78705a618ed9c8106cd8809087dfed189c07f53f3bde5ad590de3373", checked := Try.checked }
namespace Rows
def none {H : Type} : Left H := { results := [], args := [] }

/-- 'zzlaws_internal_scope_b1.FnAddRangesSplitAndSweepModel': WHATEVER THE INPUT: true; the input reads as it did. -/
def fnAddRangesSplitAndSweepModelSpec : ChangeSpec := { name := "fnAddRangesSplitAndSweepModel", fn := fun _ => fun
  | [d1, d2, d3] => { results := [.lit (.bool true)], args := [d1, d2, d3] }
  | _ => none }
def fnAddRangesSplitAndSweepModelRow : OpenClaim := { program := "qxb6617674a", sum := "01594e3a78705a618ed9c8106cd8809087dfed189c07f53f3bde5ad590de3373", func := "example.com/mortise/mortise/zzlaws_internal_scope_b1.FnAddRangesSplitAndSweepModel", spec := "fnAddRangesSplitAndSweepModel", apart := false }
def FnAddRangesSplitAndSweepModelSaid : Prop := fnAddRangesSplitAndSweepModelRow.holds Try.pinned (OpenSpec.ofChange fnAddRangesSplitAndSweepModelSpec)

/-- ITS FALSE NEIGHBOUR: 'it returns false'. Refute it at one input. -/
def fnAddRangesSplitAndSweepModelWrong : ChangeSpec := { name := "fnAddRangesSplitAndSweepModel", fn := fun _ => fun
  | [d1, d2, d3] => { results := [.lit (.bool false)], args := [d1, d2, d3] }
  | _ => none }
def FnAddRangesSplitAndSweepModelWrongFalsely : Prop := fnAddRangesSplitAndSweepModelRow.holds Try.pinned (OpenSpec.ofChange fnAddRangesSplitAndSweepModelWrong)

end Rows
end Go.Proofs.Qxb6617674a
