/-
  No cell of these rows narrows 'for every input' (looked for: loops, veiled, ifaces, maps, wideKeys, modest, calm, conditions, laid).
  DERIVED. THE GIVEN ROWS OF THIS SEAT. 5 by the template 'for every input the law returns true; each argument reads behind the call as it read before'; 0 by the template 'total and deterministic' (their statements: Qxb6603794aTotals.lean).
  GIVEN WITH THE SEED: the statements are not yours to turn. If you find one false, say at which input.
  Laid BY PROGRAM, IN A SANDBOX (cutbox-rows.mjs): the forced cells as the released guide's own fill.sh prints them over the translation 24f2094ba9782c90… (all of the seat's roots in one cut). By AI agents, Wed Nov 11 2026. No macro, syntax, notation, axiom, sorry.
-/
import Derived.Test.Qxb6603794aChecked
import GoSem.Claim
import GoSem.ClaimJoined
import GoSem.ClaimMapViews
import Derived.JoinedTies
import Derived.KernelRfl
namespace Go.Proofs.Qxb6603794a
/- THE CELL 'sum', in the pinned program and in every row, IS THE sha256 OF THE DUMP (.gsa) THAT Qxb6603794aProg.lean LOADS. Nothing in Lean hashes anything: it is a label: what it is worth is what the hold of that sum in a sandbox is worth. -/
noncomputable def Try.pinned : Pinned := { name := "qxb6603794a", sum := "24f2094ba9782c90659c1f300b92df17ca71f4882db826f2d82ffd9896cca78c", checked := Try.checked }
namespace Rows
def none {H : Type} : Left H := { results := [], args := [] }

/-- 'zzlaws_internal_cycle_b1.FnReachNextIsFirstAtLeast': WHATEVER THE INPUT: true; the input reads as it did. -/
def fnReachNextIsFirstAtLeastSpec : ChangeSpec := { name := "fnReachNextIsFirstAtLeast", fn := fun _ => fun
  | [d1, d2, d3] => { results := [.lit (.bool true)], args := [d1, d2, d3] }
  | _ => none }
def fnReachNextIsFirstAtLeastRow : OpenClaim := { program := "qxb6603794a", sum := "24f2094ba9782c90659c1f300b92df17ca71f4882db826f2d82ffd9896cca78c", func := "example.com/windlass/windlass/zzlaws_internal_cycle_b1.FnReachNextIsFirstAtLeast", spec := "fnReachNextIsFirstAtLeast", plainKeys := false, apart := false }
def FnReachNextIsFirstAtLeastSaid : Prop := fnReachNextIsFirstAtLeastRow.holds Try.pinned (OpenSpec.ofChange fnReachNextIsFirstAtLeastSpec)

/-- ITS FALSE NEIGHBOUR: 'it returns false'. Refute it at one input. -/
def fnReachNextIsFirstAtLeastWrong : ChangeSpec := { name := "fnReachNextIsFirstAtLeast", fn := fun _ => fun
  | [d1, d2, d3] => { results := [.lit (.bool false)], args := [d1, d2, d3] }
  | _ => none }
def FnReachNextIsFirstAtLeastWrongFalsely : Prop := fnReachNextIsFirstAtLeastRow.holds Try.pinned (OpenSpec.ofChange fnReachNextIsFirstAtLeastWrong)

/-- 'zzlaws_internal_cycle_b1.FnReachNextEnumeratesInRunOrder': WHATEVER THE INPUT: true; the input reads as it did. -/
def fnReachNextEnumeratesInRunOrderSpec : ChangeSpec := { name := "fnReachNextEnumeratesInRunOrder", fn := fun _ => fun
  | [d1, d2] => { results := [.lit (.bool true)], args := [d1, d2] }
  | _ => none }
def fnReachNextEnumeratesInRunOrderRow : OpenClaim := { program := "qxb6603794a", sum := "24f2094ba9782c90659c1f300b92df17ca71f4882db826f2d82ffd9896cca78c", func := "example.com/windlass/windlass/zzlaws_internal_cycle_b1.FnReachNextEnumeratesInRunOrder", spec := "fnReachNextEnumeratesInRunOrder", plainKeys := false, apart := false }
def FnReachNextEnumeratesInRunOrderSaid : Prop := fnReachNextEnumeratesInRunOrderRow.holds Try.pinned (OpenSpec.ofChange fnReachNextEnumeratesInRunOrderSpec)

/-- ITS FALSE NEIGHBOUR: 'it returns false'. Refute it at one input. -/
def fnReachNextEnumeratesInRunOrderWrong : ChangeSpec := { name := "fnReachNextEnumeratesInRunOrder", fn := fun _ => fun
  | [d1, d2] => { results := [.lit (.bool false)], args := [d1, d2] }
  | _ => none }
def FnReachNextEnumeratesInRunOrderWrongFalsely : Prop := fnReachNextEnumeratesInRunOrderRow.holds Try.pinned (OpenSpec.ofChange fnReachNextEnumeratesInRunOrderWrong)

/-- 'zzlaws_internal_cycle_b1.FnStepsNumberPairsInOrderMet': WHATEVER THE INPUT: true; the input reads as it did. -/
def fnStepsNumberPairsInOrderMetSpec : ChangeSpec := { name := "fnStepsNumberPairsInOrderMet", fn := fun _ => fun
  | [d] => { results := [.lit (.bool true)], args := [d] }
  | _ => none }
def fnStepsNumberPairsInOrderMetRow : OpenClaim := { program := "qxb6603794a", sum := "24f2094ba9782c90659c1f300b92df17ca71f4882db826f2d82ffd9896cca78c", func := "example.com/windlass/windlass/zzlaws_internal_cycle_b1.FnStepsNumberPairsInOrderMet", spec := "fnStepsNumberPairsInOrderMet", plainKeys := false, apart := false }
def FnStepsNumberPairsInOrderMetSaid : Prop := fnStepsNumberPairsInOrderMetRow.holds Try.pinned (OpenSpec.ofChange fnStepsNumberPairsInOrderMetSpec)

/-- ITS FALSE NEIGHBOUR: 'it returns false'. Refute it at one input. -/
def fnStepsNumberPairsInOrderMetWrong : ChangeSpec := { name := "fnStepsNumberPairsInOrderMet", fn := fun _ => fun
  | [d] => { results := [.lit (.bool false)], args := [d] }
  | _ => none }
def FnStepsNumberPairsInOrderMetWrongFalsely : Prop := fnStepsNumberPairsInOrderMetRow.holds Try.pinned (OpenSpec.ofChange fnStepsNumberPairsInOrderMetWrong)

/-- 'zzlaws_internal_cycle_b1.FnStepsReplayKeepsNumbers': WHATEVER THE INPUT: true; the input reads as it did. -/
def fnStepsReplayKeepsNumbersSpec : ChangeSpec := { name := "fnStepsReplayKeepsNumbers", fn := fun _ => fun
  | [d] => { results := [.lit (.bool true)], args := [d] }
  | _ => none }
def fnStepsReplayKeepsNumbersRow : OpenClaim := { program := "qxb6603794a", sum := "24f2094ba9782c90659c1f300b92df17ca71f4882db826f2d82ffd9896cca78c", func := "example.com/windlass/windlass/zzlaws_internal_cycle_b1.FnStepsReplayKeepsNumbers", spec := "fnStepsReplayKeepsNumbers", plainKeys := false, apart := false }
def FnStepsReplayKeepsNumbersSaid : Prop := fnStepsReplayKeepsNumbersRow.holds Try.pinned (OpenSpec.ofChange fnStepsReplayKeepsNumbersSpec)

/-- ITS FALSE NEIGHBOUR: 'it returns false'. Refute it at one input. -/
def fnStepsReplayKeepsNumbersWrong : ChangeSpec := { name := "fnStepsReplayKeepsNumbers", fn := fun _ => fun
  | [d] => { results := [.lit (.bool false)], args := [d] }
  | _ => none }
def FnStepsReplayKeepsNumbersWrongFalsely : Prop := fnStepsReplayKeepsNumbersRow.holds Try.pinned (OpenSpec.ofChange fnStepsReplayKeepsNumbersWrong)

/-- 'zzlaws_internal_cycle_b1.FnRadixSortIsStableSortByHighBits': WHATEVER THE INPUT: true; the input reads as it did. -/
def fnRadixSortIsStableSortByHighBitsSpec : ChangeSpec := { name := "fnRadixSortIsStableSortByHighBits", fn := fun _ => fun
  | [d1, d2, d3, d4] => { results := [.lit (.bool true)], args := [d1, d2, d3, d4] }
  | _ => none }
def fnRadixSortIsStableSortByHighBitsRow : OpenClaim := { program := "qxb6603794a", sum := "24f2094ba9782c90659c1f300b92df17ca71f4882db826f2d82ffd9896cca78c", func := "example.com/windlass/windlass/zzlaws_internal_cycle_b1.FnRadixSortIsStableSortByHighBits", spec := "fnRadixSortIsStableSortByHighBits", plainKeys := false, apart := false }
def FnRadixSortIsStableSortByHighBitsSaid : Prop := fnRadixSortIsStableSortByHighBitsRow.holds Try.pinned (OpenSpec.ofChange fnRadixSortIsStableSortByHighBitsSpec)

/-- ITS FALSE NEIGHBOUR: 'it returns false'. Refute it at one input. -/
def fnRadixSortIsStableSortByHighBitsWrong : ChangeSpec := { name := "fnRadixSortIsStableSortByHighBits", fn := fun _ => fun
  | [d1, d2, d3, d4] => { results := [.lit (.bool false)], args := [d1, d2, d3, d4] }
  | _ => none }
def FnRadixSortIsStableSortByHighBitsWrongFalsely : Prop := fnRadixSortIsStableSortByHighBitsRow.holds Try.pinned (OpenSpec.ofChange fnRadixSortIsStableSortByHighBitsWrong)

end Rows
end Go.Proofs.Qxb6603794a
