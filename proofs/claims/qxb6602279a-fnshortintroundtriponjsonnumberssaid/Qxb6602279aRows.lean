/-
  No cell of these rows narrows 'for every input' (looked for: loops, veiled, ifaces, maps, wideKeys, modest, calm, conditions, laid).
  DERIVED. THE GIVEN ROWS OF THIS SEAT. 7 by the template 'for every input the law returns true; each argument reads behind the call as it read before'; 0 by the template 'total and deterministic' (their statements: Qxb6602279aTotals.lean).
  GIVEN WITH THE SEED: the statements are not yours to turn. If you find one false, say at which input.
  Laid BY PROGRAM, IN A SANDBOX (cutbox-rows.mjs): the forced cells as the released guide's own fill.sh prints them over the translation 73207dde38c98675… (all of the seat's roots in one cut). By AI agents, Wed Nov 11 2026. No macro, syntax, notation, axiom, sorry.
-/
import Derived.Test.Qxb6602279aChecked
import GoSem.Claim
import GoSem.ClaimJoined
import GoSem.ClaimMapViews
import Derived.JoinedTies
import Derived.KernelRfl
namespace Go.Proofs.Qxb6602279a
/- THE CELL 'sum', in the pinned program and in every row, IS THE sha256 OF THE DUMP (.gsa) THAT Qxb6602279aProg.lean LOADS. Nothing in Lean hashes anything: it is a label: what it is worth is what the hold of that sum in a sandbox is worth. -/
noncomputable def Try.pinned : Pinned := { name := "qxb6602279a", sum := "73207dde38c98675953faf6fe1e4c7f86d45a0ff8245df5e5ba3da886f0045ee", checked := Try.checked }
namespace Rows
def none {H : Type} : Left H := { results := [], args := [] }

/-- 'zzlaws_dialect_b1.FnScanNumberExact': WHATEVER THE INPUT: true; the input reads as it did. -/
def fnScanNumberExactSpec : ChangeSpec := { name := "fnScanNumberExact", fn := fun _ => fun
  | [d1, d2] => { results := [.lit (.bool true)], args := [d1, d2] }
  | _ => none }
def fnScanNumberExactRow : OpenClaim := { program := "qxb6602279a", sum := "73207dde38c98675953faf6fe1e4c7f86d45a0ff8245df5e5ba3da886f0045ee", func := "example.com/babelgate/babelgate/zzlaws_dialect_b1.FnScanNumberExact", spec := "fnScanNumberExact", apart := false }
def FnScanNumberExactSaid : Prop := fnScanNumberExactRow.holds Try.pinned (OpenSpec.ofChange fnScanNumberExactSpec)

/-- ITS FALSE NEIGHBOUR: 'it returns false'. Refute it at one input. -/
def fnScanNumberExactWrong : ChangeSpec := { name := "fnScanNumberExact", fn := fun _ => fun
  | [d1, d2] => { results := [.lit (.bool false)], args := [d1, d2] }
  | _ => none }
def FnScanNumberExactWrongFalsely : Prop := fnScanNumberExactRow.holds Try.pinned (OpenSpec.ofChange fnScanNumberExactWrong)

/-- 'zzlaws_dialect_b1.FnScanNumberShiftAndBounds': WHATEVER THE INPUT: true; the input reads as it did. -/
def fnScanNumberShiftAndBoundsSpec : ChangeSpec := { name := "fnScanNumberShiftAndBounds", fn := fun _ => fun
  | [d1, d2] => { results := [.lit (.bool true)], args := [d1, d2] }
  | _ => none }
def fnScanNumberShiftAndBoundsRow : OpenClaim := { program := "qxb6602279a", sum := "73207dde38c98675953faf6fe1e4c7f86d45a0ff8245df5e5ba3da886f0045ee", func := "example.com/babelgate/babelgate/zzlaws_dialect_b1.FnScanNumberShiftAndBounds", spec := "fnScanNumberShiftAndBounds", apart := false }
def FnScanNumberShiftAndBoundsSaid : Prop := fnScanNumberShiftAndBoundsRow.holds Try.pinned (OpenSpec.ofChange fnScanNumberShiftAndBoundsSpec)

/-- ITS FALSE NEIGHBOUR: 'it returns false'. Refute it at one input. -/
def fnScanNumberShiftAndBoundsWrong : ChangeSpec := { name := "fnScanNumberShiftAndBounds", fn := fun _ => fun
  | [d1, d2] => { results := [.lit (.bool false)], args := [d1, d2] }
  | _ => none }
def FnScanNumberShiftAndBoundsWrongFalsely : Prop := fnScanNumberShiftAndBoundsRow.holds Try.pinned (OpenSpec.ofChange fnScanNumberShiftAndBoundsWrong)

/-- 'zzlaws_dialect_b1.FnScanNumberTokenRescans': WHATEVER THE INPUT: true; the input reads as it did. -/
def fnScanNumberTokenRescansSpec : ChangeSpec := { name := "fnScanNumberTokenRescans", fn := fun _ => fun
  | [d1, d2] => { results := [.lit (.bool true)], args := [d1, d2] }
  | _ => none }
def fnScanNumberTokenRescansRow : OpenClaim := { program := "qxb6602279a", sum := "73207dde38c98675953faf6fe1e4c7f86d45a0ff8245df5e5ba3da886f0045ee", func := "example.com/babelgate/babelgate/zzlaws_dialect_b1.FnScanNumberTokenRescans", spec := "fnScanNumberTokenRescans", apart := false }
def FnScanNumberTokenRescansSaid : Prop := fnScanNumberTokenRescansRow.holds Try.pinned (OpenSpec.ofChange fnScanNumberTokenRescansSpec)

/-- ITS FALSE NEIGHBOUR: 'it returns false'. Refute it at one input. -/
def fnScanNumberTokenRescansWrong : ChangeSpec := { name := "fnScanNumberTokenRescans", fn := fun _ => fun
  | [d1, d2] => { results := [.lit (.bool false)], args := [d1, d2] }
  | _ => none }
def FnScanNumberTokenRescansWrongFalsely : Prop := fnScanNumberTokenRescansRow.holds Try.pinned (OpenSpec.ofChange fnScanNumberTokenRescansWrong)

/-- 'zzlaws_dialect_b1.FnHexRuneExact': WHATEVER THE INPUT: true; the input reads as it did. -/
def fnHexRuneExactSpec : ChangeSpec := { name := "fnHexRuneExact", fn := fun _ => fun
  | [d] => { results := [.lit (.bool true)], args := [d] }
  | _ => none }
def fnHexRuneExactRow : OpenClaim := { program := "qxb6602279a", sum := "73207dde38c98675953faf6fe1e4c7f86d45a0ff8245df5e5ba3da886f0045ee", func := "example.com/babelgate/babelgate/zzlaws_dialect_b1.FnHexRuneExact", spec := "fnHexRuneExact", apart := false }
def FnHexRuneExactSaid : Prop := fnHexRuneExactRow.holds Try.pinned (OpenSpec.ofChange fnHexRuneExactSpec)

/-- ITS FALSE NEIGHBOUR: 'it returns false'. Refute it at one input. -/
def fnHexRuneExactWrong : ChangeSpec := { name := "fnHexRuneExact", fn := fun _ => fun
  | [d] => { results := [.lit (.bool false)], args := [d] }
  | _ => none }
def FnHexRuneExactWrongFalsely : Prop := fnHexRuneExactRow.holds Try.pinned (OpenSpec.ofChange fnHexRuneExactWrong)

/-- 'zzlaws_dialect_b1.FnHexRuneIgnoresCaseAndTail': WHATEVER THE INPUT: true; the input reads as it did. -/
def fnHexRuneIgnoresCaseAndTailSpec : ChangeSpec := { name := "fnHexRuneIgnoresCaseAndTail", fn := fun _ => fun
  | [d1, d2] => { results := [.lit (.bool true)], args := [d1, d2] }
  | _ => none }
def fnHexRuneIgnoresCaseAndTailRow : OpenClaim := { program := "qxb6602279a", sum := "73207dde38c98675953faf6fe1e4c7f86d45a0ff8245df5e5ba3da886f0045ee", func := "example.com/babelgate/babelgate/zzlaws_dialect_b1.FnHexRuneIgnoresCaseAndTail", spec := "fnHexRuneIgnoresCaseAndTail", apart := false }
def FnHexRuneIgnoresCaseAndTailSaid : Prop := fnHexRuneIgnoresCaseAndTailRow.holds Try.pinned (OpenSpec.ofChange fnHexRuneIgnoresCaseAndTailSpec)

/-- ITS FALSE NEIGHBOUR: 'it returns false'. Refute it at one input. -/
def fnHexRuneIgnoresCaseAndTailWrong : ChangeSpec := { name := "fnHexRuneIgnoresCaseAndTail", fn := fun _ => fun
  | [d1, d2] => { results := [.lit (.bool false)], args := [d1, d2] }
  | _ => none }
def FnHexRuneIgnoresCaseAndTailWrongFalsely : Prop := fnHexRuneIgnoresCaseAndTailRow.holds Try.pinned (OpenSpec.ofChange fnHexRuneIgnoresCaseAndTailWrong)

/-- 'zzlaws_dialect_b1.FnShortIntExact': WHATEVER THE INPUT: true; the input reads as it did. -/
def fnShortIntExactSpec : ChangeSpec := { name := "fnShortIntExact", fn := fun _ => fun
  | [d] => { results := [.lit (.bool true)], args := [d] }
  | _ => none }
def fnShortIntExactRow : OpenClaim := { program := "qxb6602279a", sum := "73207dde38c98675953faf6fe1e4c7f86d45a0ff8245df5e5ba3da886f0045ee", func := "example.com/babelgate/babelgate/zzlaws_dialect_b1.FnShortIntExact", spec := "fnShortIntExact", apart := false }
def FnShortIntExactSaid : Prop := fnShortIntExactRow.holds Try.pinned (OpenSpec.ofChange fnShortIntExactSpec)

/-- ITS FALSE NEIGHBOUR: 'it returns false'. Refute it at one input. -/
def fnShortIntExactWrong : ChangeSpec := { name := "fnShortIntExact", fn := fun _ => fun
  | [d] => { results := [.lit (.bool false)], args := [d] }
  | _ => none }
def FnShortIntExactWrongFalsely : Prop := fnShortIntExactRow.holds Try.pinned (OpenSpec.ofChange fnShortIntExactWrong)

/-- 'zzlaws_dialect_b1.FnShortIntRoundTripOnJSONNumbers': WHATEVER THE INPUT: true; the input reads as it did. -/
def fnShortIntRoundTripOnJSONNumbersSpec : ChangeSpec := { name := "fnShortIntRoundTripOnJSONNumbers", fn := fun _ => fun
  | [d] => { results := [.lit (.bool true)], args := [d] }
  | _ => none }
def fnShortIntRoundTripOnJSONNumbersRow : OpenClaim := { program := "qxb6602279a", sum := "73207dde38c98675953faf6fe1e4c7f86d45a0ff8245df5e5ba3da886f0045ee", func := "example.com/babelgate/babelgate/zzlaws_dialect_b1.FnShortIntRoundTripOnJSONNumbers", spec := "fnShortIntRoundTripOnJSONNumbers", apart := false }
def FnShortIntRoundTripOnJSONNumbersSaid : Prop := fnShortIntRoundTripOnJSONNumbersRow.holds Try.pinned (OpenSpec.ofChange fnShortIntRoundTripOnJSONNumbersSpec)

/-- ITS FALSE NEIGHBOUR: 'it returns false'. Refute it at one input. -/
def fnShortIntRoundTripOnJSONNumbersWrong : ChangeSpec := { name := "fnShortIntRoundTripOnJSONNumbers", fn := fun _ => fun
  | [d] => { results := [.lit (.bool false)], args := [d] }
  | _ => none }
def FnShortIntRoundTripOnJSONNumbersWrongFalsely : Prop := fnShortIntRoundTripOnJSONNumbersRow.holds Try.pinned (OpenSpec.ofChange fnShortIntRoundTripOnJSONNumbersWrong)

end Rows
end Go.Proofs.Qxb6602279a
