/-
  No cell of these rows narrows 'for every input' (looked for: loops, veiled, ifaces, maps, wideKeys, modest, calm, conditions, laid).
  DERIVED. THE GIVEN ROWS OF THIS SEAT. 7 by the template 'for every input the law returns true; each argument reads behind the call as it read before'; 0 by the template 'total and deterministic' (their statements: Qxb6616641aTotals.lean).
  GIVEN WITH THE SEED: the statements are not yours to turn. If you find one false, say at which input.
  Laid BY PROGRAM, IN A SANDBOX (cutbox-rows.mjs): the forced cells as the released guide's own fill.sh prints them over the translation 9b196caa557e80eb… (all of the seat's roots in one cut). By AI agents, Wed Nov 11 2026. No macro, syntax, notation, axiom, sorry.
-/
import Derived.Test.Qxb6616641aChecked
import GoSem.Claim
import GoSem.ClaimJoined
import GoSem.ClaimMapViews
import Derived.JoinedTies
import Derived.KernelRfl
namespace Go.Proofs.Qxb6616641a
/- THE CELL 'sum', in the pinned program and in every row, IS THE sha256 OF THE DUMP (.gsa) THAT Qxb6616641aProg.lean LOADS. Nothing in Lean hashes anything: it is a label: what it is worth is what the hold of that sum in a sandbox is worth. -/
noncomputable def Try.pinned : Pinned := { name := "qxb6616641a", sum := "9b196caa557e80eb429e2a0513b3cfcf4d5a6d897c8425aa9160f6466af30391", checked := Try.checked }
namespace Rows
def none {H : Type} : Left H := { results := [], args := [] }

/-- 'zzlaws_root_b1.FnPositionCompareIsEncodedByteOrder': WHATEVER THE INPUT: true; the input reads as it did. -/
def fnPositionCompareIsEncodedByteOrderSpec : ChangeSpec := { name := "fnPositionCompareIsEncodedByteOrder", fn := fun _ => fun
  | [d1, d2, d3, d4, d5, d6] => { results := [.lit (.bool true)], args := [d1, d2, d3, d4, d5, d6] }
  | _ => none }
def fnPositionCompareIsEncodedByteOrderRow : OpenClaim := { program := "qxb6616641a", sum := "9b196caa557e80eb429e2a0513b3cfcf4d5a6d897c8425aa9160f6466af30391", func := "example.com/crossbook/crossbook/zzlaws_root_b1.FnPositionCompareIsEncodedByteOrder", spec := "fnPositionCompareIsEncodedByteOrder", apart := false }
def FnPositionCompareIsEncodedByteOrderSaid : Prop := fnPositionCompareIsEncodedByteOrderRow.holds Try.pinned (OpenSpec.ofChange fnPositionCompareIsEncodedByteOrderSpec)

/-- ITS FALSE NEIGHBOUR: 'it returns false'. Refute it at one input. -/
def fnPositionCompareIsEncodedByteOrderWrong : ChangeSpec := { name := "fnPositionCompareIsEncodedByteOrder", fn := fun _ => fun
  | [d1, d2, d3, d4, d5, d6] => { results := [.lit (.bool false)], args := [d1, d2, d3, d4, d5, d6] }
  | _ => none }
def FnPositionCompareIsEncodedByteOrderWrongFalsely : Prop := fnPositionCompareIsEncodedByteOrderRow.holds Try.pinned (OpenSpec.ofChange fnPositionCompareIsEncodedByteOrderWrong)

/-- 'zzlaws_root_b1.FnPositionCompareIsStrictTotalOrder': WHATEVER THE INPUT: true; the input reads as it did. -/
def fnPositionCompareIsStrictTotalOrderSpec : ChangeSpec := { name := "fnPositionCompareIsStrictTotalOrder", fn := fun _ => fun
  | [d1, d2, d3, d4, d5, d6, d7, d8, d9] => { results := [.lit (.bool true)], args := [d1, d2, d3, d4, d5, d6, d7, d8, d9] }
  | _ => none }
def fnPositionCompareIsStrictTotalOrderRow : OpenClaim := { program := "qxb6616641a", sum := "9b196caa557e80eb429e2a0513b3cfcf4d5a6d897c8425aa9160f6466af30391", func := "example.com/crossbook/crossbook/zzlaws_root_b1.FnPositionCompareIsStrictTotalOrder", spec := "fnPositionCompareIsStrictTotalOrder", apart := false }
def FnPositionCompareIsStrictTotalOrderSaid : Prop := fnPositionCompareIsStrictTotalOrderRow.holds Try.pinned (OpenSpec.ofChange fnPositionCompareIsStrictTotalOrderSpec)

/-- ITS FALSE NEIGHBOUR: 'it returns false'. Refute it at one input. -/
def fnPositionCompareIsStrictTotalOrderWrong : ChangeSpec := { name := "fnPositionCompareIsStrictTotalOrder", fn := fun _ => fun
  | [d1, d2, d3, d4, d5, d6, d7, d8, d9] => { results := [.lit (.bool false)], args := [d1, d2, d3, d4, d5, d6, d7, d8, d9] }
  | _ => none }
def FnPositionCompareIsStrictTotalOrderWrongFalsely : Prop := fnPositionCompareIsStrictTotalOrderRow.holds Try.pinned (OpenSpec.ofChange fnPositionCompareIsStrictTotalOrderWrong)

/-- 'zzlaws_root_b1.FnBookLadderAgreesWithSides': WHATEVER THE INPUT: true; the input reads as it did. -/
def fnBookLadderAgreesWithSidesSpec : ChangeSpec := { name := "fnBookLadderAgreesWithSides", fn := fun _ => fun
  | [d1, d2, d3, d4] => { results := [.lit (.bool true)], args := [d1, d2, d3, d4] }
  | _ => none }
def fnBookLadderAgreesWithSidesRow : OpenClaim := { program := "qxb6616641a", sum := "9b196caa557e80eb429e2a0513b3cfcf4d5a6d897c8425aa9160f6466af30391", func := "example.com/crossbook/crossbook/zzlaws_root_b1.FnBookLadderAgreesWithSides", spec := "fnBookLadderAgreesWithSides", apart := false }
def FnBookLadderAgreesWithSidesSaid : Prop := fnBookLadderAgreesWithSidesRow.holds Try.pinned (OpenSpec.ofChange fnBookLadderAgreesWithSidesSpec)

/-- ITS FALSE NEIGHBOUR: 'it returns false'. Refute it at one input. -/
def fnBookLadderAgreesWithSidesWrong : ChangeSpec := { name := "fnBookLadderAgreesWithSides", fn := fun _ => fun
  | [d1, d2, d3, d4] => { results := [.lit (.bool false)], args := [d1, d2, d3, d4] }
  | _ => none }
def FnBookLadderAgreesWithSidesWrongFalsely : Prop := fnBookLadderAgreesWithSidesRow.holds Try.pinned (OpenSpec.ofChange fnBookLadderAgreesWithSidesWrong)

/-- 'zzlaws_root_b1.FnBookLadderRanksPricesForItsSide': WHATEVER THE INPUT: true; the input reads as it did. -/
def fnBookLadderRanksPricesForItsSideSpec : ChangeSpec := { name := "fnBookLadderRanksPricesForItsSide", fn := fun _ => fun
  | [d1, d2, d3, d4, d5, d6] => { results := [.lit (.bool true)], args := [d1, d2, d3, d4, d5, d6] }
  | _ => none }
def fnBookLadderRanksPricesForItsSideRow : OpenClaim := { program := "qxb6616641a", sum := "9b196caa557e80eb429e2a0513b3cfcf4d5a6d897c8425aa9160f6466af30391", func := "example.com/crossbook/crossbook/zzlaws_root_b1.FnBookLadderRanksPricesForItsSide", spec := "fnBookLadderRanksPricesForItsSide", apart := false }
def FnBookLadderRanksPricesForItsSideSaid : Prop := fnBookLadderRanksPricesForItsSideRow.holds Try.pinned (OpenSpec.ofChange fnBookLadderRanksPricesForItsSideSpec)

/-- ITS FALSE NEIGHBOUR: 'it returns false'. Refute it at one input. -/
def fnBookLadderRanksPricesForItsSideWrong : ChangeSpec := { name := "fnBookLadderRanksPricesForItsSide", fn := fun _ => fun
  | [d1, d2, d3, d4, d5, d6] => { results := [.lit (.bool false)], args := [d1, d2, d3, d4, d5, d6] }
  | _ => none }
def FnBookLadderRanksPricesForItsSideWrongFalsely : Prop := fnBookLadderRanksPricesForItsSideRow.holds Try.pinned (OpenSpec.ofChange fnBookLadderRanksPricesForItsSideWrong)

/-- 'zzlaws_root_b1.FnBookSidesListBuysThenSells': WHATEVER THE INPUT: true; the input reads as it did. -/
def fnBookSidesListBuysThenSellsSpec : ChangeSpec := { name := "fnBookSidesListBuysThenSells", fn := fun _ => fun
  | [d1, d2, d3, d4, d5] => { results := [.lit (.bool true)], args := [d1, d2, d3, d4, d5] }
  | _ => none }
def fnBookSidesListBuysThenSellsRow : OpenClaim := { program := "qxb6616641a", sum := "9b196caa557e80eb429e2a0513b3cfcf4d5a6d897c8425aa9160f6466af30391", func := "example.com/crossbook/crossbook/zzlaws_root_b1.FnBookSidesListBuysThenSells", spec := "fnBookSidesListBuysThenSells", apart := false }
def FnBookSidesListBuysThenSellsSaid : Prop := fnBookSidesListBuysThenSellsRow.holds Try.pinned (OpenSpec.ofChange fnBookSidesListBuysThenSellsSpec)

/-- ITS FALSE NEIGHBOUR: 'it returns false'. Refute it at one input. -/
def fnBookSidesListBuysThenSellsWrong : ChangeSpec := { name := "fnBookSidesListBuysThenSells", fn := fun _ => fun
  | [d1, d2, d3, d4, d5] => { results := [.lit (.bool false)], args := [d1, d2, d3, d4, d5] }
  | _ => none }
def FnBookSidesListBuysThenSellsWrongFalsely : Prop := fnBookSidesListBuysThenSellsRow.holds Try.pinned (OpenSpec.ofChange fnBookSidesListBuysThenSellsWrong)

/-- 'zzlaws_root_b1.FnCaptureSaveKeepsImageOnce': WHATEVER THE INPUT: true; the input reads as it did. -/
def fnCaptureSaveKeepsImageOnceSpec : ChangeSpec := { name := "fnCaptureSaveKeepsImageOnce", fn := fun _ => fun
  | [d1, d2, d3, d4, d5, d6] => { results := [.lit (.bool true)], args := [d1, d2, d3, d4, d5, d6] }
  | _ => none }
def fnCaptureSaveKeepsImageOnceRow : OpenClaim := { program := "qxb6616641a", sum := "9b196caa557e80eb429e2a0513b3cfcf4d5a6d897c8425aa9160f6466af30391", func := "example.com/crossbook/crossbook/zzlaws_root_b1.FnCaptureSaveKeepsImageOnce", spec := "fnCaptureSaveKeepsImageOnce", apart := false }
def FnCaptureSaveKeepsImageOnceSaid : Prop := fnCaptureSaveKeepsImageOnceRow.holds Try.pinned (OpenSpec.ofChange fnCaptureSaveKeepsImageOnceSpec)

/-- ITS FALSE NEIGHBOUR: 'it returns false'. Refute it at one input. -/
def fnCaptureSaveKeepsImageOnceWrong : ChangeSpec := { name := "fnCaptureSaveKeepsImageOnce", fn := fun _ => fun
  | [d1, d2, d3, d4, d5, d6] => { results := [.lit (.bool false)], args := [d1, d2, d3, d4, d5, d6] }
  | _ => none }
def FnCaptureSaveKeepsImageOnceWrongFalsely : Prop := fnCaptureSaveKeepsImageOnceRow.holds Try.pinned (OpenSpec.ofChange fnCaptureSaveKeepsImageOnceWrong)

/-- 'zzlaws_root_b1.FnCaptureSaveScriptKeepsHeap': WHATEVER THE INPUT: true; the input reads as it did. -/
def fnCaptureSaveScriptKeepsHeapSpec : ChangeSpec := { name := "fnCaptureSaveScriptKeepsHeap", fn := fun _ => fun
  | [d1, d2, d3, d4, d5, d6] => { results := [.lit (.bool true)], args := [d1, d2, d3, d4, d5, d6] }
  | _ => none }
def fnCaptureSaveScriptKeepsHeapRow : OpenClaim := { program := "qxb6616641a", sum := "9b196caa557e80eb429e2a0513b3cfcf4d5a6d897c8425aa9160f6466af30391", func := "example.com/crossbook/crossbook/zzlaws_root_b1.FnCaptureSaveScriptKeepsHeap", spec := "fnCaptureSaveScriptKeepsHeap", apart := false }
def FnCaptureSaveScriptKeepsHeapSaid : Prop := fnCaptureSaveScriptKeepsHeapRow.holds Try.pinned (OpenSpec.ofChange fnCaptureSaveScriptKeepsHeapSpec)

/-- ITS FALSE NEIGHBOUR: 'it returns false'. Refute it at one input. -/
def fnCaptureSaveScriptKeepsHeapWrong : ChangeSpec := { name := "fnCaptureSaveScriptKeepsHeap", fn := fun _ => fun
  | [d1, d2, d3, d4, d5, d6] => { results := [.lit (.bool false)], args := [d1, d2, d3, d4, d5, d6] }
  | _ => none }
def FnCaptureSaveScriptKeepsHeapWrongFalsely : Prop := fnCaptureSaveScriptKeepsHeapRow.holds Try.pinned (OpenSpec.ofChange fnCaptureSaveScriptKeepsHeapWrong)

end Rows
end Go.Proofs.Qxb6616641a
