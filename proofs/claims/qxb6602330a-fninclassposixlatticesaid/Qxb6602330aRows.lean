/-
  No cell of these rows narrows 'for every input' (looked for: loops, veiled, ifaces, maps, wideKeys, modest, calm, conditions, laid).
  DERIVED. THE GIVEN ROWS OF THIS SEAT. 8 by the template 'for every input the law returns true; each argument reads behind the call as it read before'; 0 by the template 'total and deterministic' (their statements: Qxb6602330aTotals.lean).
  GIVEN WITH THE SEED: the statements are not yours to turn. If you find one false, say at which input.
  Laid BY PROGRAM, IN A SANDBOX (cutbox-rows.mjs): the forced cells as the released guide's own fill.sh prints them over the translation e971a6c511a4c600… (all of the seat's roots in one cut). By AI agents, Wed Nov 11 2026. No macro, syntax, notation, axiom, sorry.
-/
import Derived.Test.Qxb6602330aChecked
import GoSem.Claim
import GoSem.ClaimJoined
import GoSem.ClaimMapViews
import Derived.JoinedTies
import Derived.KernelRfl
namespace Go.Proofs.Qxb6602330a
/- THE CELL 'sum', in the pinned program and in every row, IS THE sha256 OF THE DUMP (.gsa) THAT Qxb6602330aProg.lean LOADS. Nothing in Lean hashes anything: it is a label: what it is worth is what the hold of that sum in a sandbox is worth. -/
noncomputable def Try.pinned : Pinned := { name := "qxb6602330a", sum := "e971a6c511a4c6004763c0d0ae1a82cac7a76299a246545aacd763347b09d825", checked := Try.checked }
namespace Rows
def none {H : Type} : Left H := { results := [], args := [] }

/-- 'zzlaws_internal_gitignore_b1.FnInClassMatchesCtypeTable': WHATEVER THE INPUT: true; the input reads as it did. -/
def fnInClassMatchesCtypeTableSpec : ChangeSpec := { name := "fnInClassMatchesCtypeTable", fn := fun _ => fun
  | [d1, d2] => { results := [.lit (.bool true)], args := [d1, d2] }
  | _ => none }
def fnInClassMatchesCtypeTableRow : OpenClaim := { program := "qxb6602330a", sum := "e971a6c511a4c6004763c0d0ae1a82cac7a76299a246545aacd763347b09d825", func := "example.com/ambit/ambit/zzlaws_internal_gitignore_b1.FnInClassMatchesCtypeTable", spec := "fnInClassMatchesCtypeTable", apart := false }
def FnInClassMatchesCtypeTableSaid : Prop := fnInClassMatchesCtypeTableRow.holds Try.pinned (OpenSpec.ofChange fnInClassMatchesCtypeTableSpec)

/-- ITS FALSE NEIGHBOUR: 'it returns false'. Refute it at one input. -/
def fnInClassMatchesCtypeTableWrong : ChangeSpec := { name := "fnInClassMatchesCtypeTable", fn := fun _ => fun
  | [d1, d2] => { results := [.lit (.bool false)], args := [d1, d2] }
  | _ => none }
def FnInClassMatchesCtypeTableWrongFalsely : Prop := fnInClassMatchesCtypeTableRow.holds Try.pinned (OpenSpec.ofChange fnInClassMatchesCtypeTableWrong)

/-- 'zzlaws_internal_gitignore_b1.FnInClassPosixLattice': WHATEVER THE INPUT: true; the input reads as it did. -/
def fnInClassPosixLatticeSpec : ChangeSpec := { name := "fnInClassPosixLattice", fn := fun _ => fun
  | [d] => { results := [.lit (.bool true)], args := [d] }
  | _ => none }
def fnInClassPosixLatticeRow : OpenClaim := { program := "qxb6602330a", sum := "e971a6c511a4c6004763c0d0ae1a82cac7a76299a246545aacd763347b09d825", func := "example.com/ambit/ambit/zzlaws_internal_gitignore_b1.FnInClassPosixLattice", spec := "fnInClassPosixLattice", apart := false }
def FnInClassPosixLatticeSaid : Prop := fnInClassPosixLatticeRow.holds Try.pinned (OpenSpec.ofChange fnInClassPosixLatticeSpec)

/-- ITS FALSE NEIGHBOUR: 'it returns false'. Refute it at one input. -/
def fnInClassPosixLatticeWrong : ChangeSpec := { name := "fnInClassPosixLattice", fn := fun _ => fun
  | [d] => { results := [.lit (.bool false)], args := [d] }
  | _ => none }
def FnInClassPosixLatticeWrongFalsely : Prop := fnInClassPosixLatticeRow.holds Try.pinned (OpenSpec.ofChange fnInClassPosixLatticeWrong)

/-- 'zzlaws_internal_gitignore_b1.FnMatchSetWidthOfPatternAlone': WHATEVER THE INPUT: true; the input reads as it did. -/
def fnMatchSetWidthOfPatternAloneSpec : ChangeSpec := { name := "fnMatchSetWidthOfPatternAlone", fn := fun _ => fun
  | [d1, d2, d3] => { results := [.lit (.bool true)], args := [d1, d2, d3] }
  | _ => none }
def fnMatchSetWidthOfPatternAloneRow : OpenClaim := { program := "qxb6602330a", sum := "e971a6c511a4c6004763c0d0ae1a82cac7a76299a246545aacd763347b09d825", func := "example.com/ambit/ambit/zzlaws_internal_gitignore_b1.FnMatchSetWidthOfPatternAlone", spec := "fnMatchSetWidthOfPatternAlone", inPlace := ["internal/bytealg.IndexByteString"], apart := false }
def FnMatchSetWidthOfPatternAloneSaid : Prop := fnMatchSetWidthOfPatternAloneRow.holds Try.pinned (OpenSpec.ofChange fnMatchSetWidthOfPatternAloneSpec)

/-- ITS FALSE NEIGHBOUR: 'it returns false'. Refute it at one input. -/
def fnMatchSetWidthOfPatternAloneWrong : ChangeSpec := { name := "fnMatchSetWidthOfPatternAlone", fn := fun _ => fun
  | [d1, d2, d3] => { results := [.lit (.bool false)], args := [d1, d2, d3] }
  | _ => none }
def FnMatchSetWidthOfPatternAloneWrongFalsely : Prop := fnMatchSetWidthOfPatternAloneRow.holds Try.pinned (OpenSpec.ofChange fnMatchSetWidthOfPatternAloneWrong)

/-- 'zzlaws_internal_gitignore_b1.FnMatchSetEndsAtItsBracket': WHATEVER THE INPUT: true; the input reads as it did. -/
def fnMatchSetEndsAtItsBracketSpec : ChangeSpec := { name := "fnMatchSetEndsAtItsBracket", fn := fun _ => fun
  | [d1, d2] => { results := [.lit (.bool true)], args := [d1, d2] }
  | _ => none }
def fnMatchSetEndsAtItsBracketRow : OpenClaim := { program := "qxb6602330a", sum := "e971a6c511a4c6004763c0d0ae1a82cac7a76299a246545aacd763347b09d825", func := "example.com/ambit/ambit/zzlaws_internal_gitignore_b1.FnMatchSetEndsAtItsBracket", spec := "fnMatchSetEndsAtItsBracket", inPlace := ["internal/bytealg.IndexByteString"], apart := false }
def FnMatchSetEndsAtItsBracketSaid : Prop := fnMatchSetEndsAtItsBracketRow.holds Try.pinned (OpenSpec.ofChange fnMatchSetEndsAtItsBracketSpec)

/-- ITS FALSE NEIGHBOUR: 'it returns false'. Refute it at one input. -/
def fnMatchSetEndsAtItsBracketWrong : ChangeSpec := { name := "fnMatchSetEndsAtItsBracket", fn := fun _ => fun
  | [d1, d2] => { results := [.lit (.bool false)], args := [d1, d2] }
  | _ => none }
def FnMatchSetEndsAtItsBracketWrongFalsely : Prop := fnMatchSetEndsAtItsBracketRow.holds Try.pinned (OpenSpec.ofChange fnMatchSetEndsAtItsBracketWrong)

/-- 'zzlaws_internal_gitignore_b1.FnMatchSetNegationComplements': WHATEVER THE INPUT: true; the input reads as it did. -/
def fnMatchSetNegationComplementsSpec : ChangeSpec := { name := "fnMatchSetNegationComplements", fn := fun _ => fun
  | [d1, d2] => { results := [.lit (.bool true)], args := [d1, d2] }
  | _ => none }
def fnMatchSetNegationComplementsRow : OpenClaim := { program := "qxb6602330a", sum := "e971a6c511a4c6004763c0d0ae1a82cac7a76299a246545aacd763347b09d825", func := "example.com/ambit/ambit/zzlaws_internal_gitignore_b1.FnMatchSetNegationComplements", spec := "fnMatchSetNegationComplements", inPlace := ["internal/bytealg.IndexByteString"], apart := false }
def FnMatchSetNegationComplementsSaid : Prop := fnMatchSetNegationComplementsRow.holds Try.pinned (OpenSpec.ofChange fnMatchSetNegationComplementsSpec)

/-- ITS FALSE NEIGHBOUR: 'it returns false'. Refute it at one input. -/
def fnMatchSetNegationComplementsWrong : ChangeSpec := { name := "fnMatchSetNegationComplements", fn := fun _ => fun
  | [d1, d2] => { results := [.lit (.bool false)], args := [d1, d2] }
  | _ => none }
def FnMatchSetNegationComplementsWrongFalsely : Prop := fnMatchSetNegationComplementsRow.holds Try.pinned (OpenSpec.ofChange fnMatchSetNegationComplementsWrong)

/-- 'zzlaws_internal_gitignore_b1.FnMatchSegmentAgreesWithTableMatcher': WHATEVER THE INPUT: true; the input reads as it did. -/
def fnMatchSegmentAgreesWithTableMatcherSpec : ChangeSpec := { name := "fnMatchSegmentAgreesWithTableMatcher", fn := fun _ => fun
  | [d1, d2] => { results := [.lit (.bool true)], args := [d1, d2] }
  | _ => none }
def fnMatchSegmentAgreesWithTableMatcherRow : OpenClaim := { program := "qxb6602330a", sum := "e971a6c511a4c6004763c0d0ae1a82cac7a76299a246545aacd763347b09d825", func := "example.com/ambit/ambit/zzlaws_internal_gitignore_b1.FnMatchSegmentAgreesWithTableMatcher", spec := "fnMatchSegmentAgreesWithTableMatcher", inPlace := ["internal/bytealg.IndexByteString"], apart := false }
def FnMatchSegmentAgreesWithTableMatcherSaid : Prop := fnMatchSegmentAgreesWithTableMatcherRow.holds Try.pinned (OpenSpec.ofChange fnMatchSegmentAgreesWithTableMatcherSpec)

/-- ITS FALSE NEIGHBOUR: 'it returns false'. Refute it at one input. -/
def fnMatchSegmentAgreesWithTableMatcherWrong : ChangeSpec := { name := "fnMatchSegmentAgreesWithTableMatcher", fn := fun _ => fun
  | [d1, d2] => { results := [.lit (.bool false)], args := [d1, d2] }
  | _ => none }
def FnMatchSegmentAgreesWithTableMatcherWrongFalsely : Prop := fnMatchSegmentAgreesWithTableMatcherRow.holds Try.pinned (OpenSpec.ofChange fnMatchSegmentAgreesWithTableMatcherWrong)

/-- 'zzlaws_internal_gitignore_b1.FnMatchSegmentEscapedNameMatchesItselfAlone': WHATEVER THE INPUT: true; the input reads as it did. -/
def fnMatchSegmentEscapedNameMatchesItselfAloneSpec : ChangeSpec := { name := "fnMatchSegmentEscapedNameMatchesItselfAlone", fn := fun _ => fun
  | [d1, d2] => { results := [.lit (.bool true)], args := [d1, d2] }
  | _ => none }
def fnMatchSegmentEscapedNameMatchesItselfAloneRow : OpenClaim := { program := "qxb6602330a", sum := "e971a6c511a4c6004763c0d0ae1a82cac7a76299a246545aacd763347b09d825", func := "example.com/ambit/ambit/zzlaws_internal_gitignore_b1.FnMatchSegmentEscapedNameMatchesItselfAlone", spec := "fnMatchSegmentEscapedNameMatchesItselfAlone", inPlace := ["internal/bytealg.IndexByteString"], apart := false }
def FnMatchSegmentEscapedNameMatchesItselfAloneSaid : Prop := fnMatchSegmentEscapedNameMatchesItselfAloneRow.holds Try.pinned (OpenSpec.ofChange fnMatchSegmentEscapedNameMatchesItselfAloneSpec)

/-- ITS FALSE NEIGHBOUR: 'it returns false'. Refute it at one input. -/
def fnMatchSegmentEscapedNameMatchesItselfAloneWrong : ChangeSpec := { name := "fnMatchSegmentEscapedNameMatchesItselfAlone", fn := fun _ => fun
  | [d1, d2] => { results := [.lit (.bool false)], args := [d1, d2] }
  | _ => none }
def FnMatchSegmentEscapedNameMatchesItselfAloneWrongFalsely : Prop := fnMatchSegmentEscapedNameMatchesItselfAloneRow.holds Try.pinned (OpenSpec.ofChange fnMatchSegmentEscapedNameMatchesItselfAloneWrong)

/-- 'zzlaws_internal_gitignore_b1.FnMatchSegmentConcatenates': WHATEVER THE INPUT: true; the input reads as it did. -/
def fnMatchSegmentConcatenatesSpec : ChangeSpec := { name := "fnMatchSegmentConcatenates", fn := fun _ => fun
  | [d1, d2, d3, d4] => { results := [.lit (.bool true)], args := [d1, d2, d3, d4] }
  | _ => none }
def fnMatchSegmentConcatenatesRow : OpenClaim := { program := "qxb6602330a", sum := "e971a6c511a4c6004763c0d0ae1a82cac7a76299a246545aacd763347b09d825", func := "example.com/ambit/ambit/zzlaws_internal_gitignore_b1.FnMatchSegmentConcatenates", spec := "fnMatchSegmentConcatenates", inPlace := ["internal/bytealg.IndexByteString"], apart := false }
def FnMatchSegmentConcatenatesSaid : Prop := fnMatchSegmentConcatenatesRow.holds Try.pinned (OpenSpec.ofChange fnMatchSegmentConcatenatesSpec)

/-- ITS FALSE NEIGHBOUR: 'it returns false'. Refute it at one input. -/
def fnMatchSegmentConcatenatesWrong : ChangeSpec := { name := "fnMatchSegmentConcatenates", fn := fun _ => fun
  | [d1, d2, d3, d4] => { results := [.lit (.bool false)], args := [d1, d2, d3, d4] }
  | _ => none }
def FnMatchSegmentConcatenatesWrongFalsely : Prop := fnMatchSegmentConcatenatesRow.holds Try.pinned (OpenSpec.ofChange fnMatchSegmentConcatenatesWrong)

end Rows
end Go.Proofs.Qxb6602330a
