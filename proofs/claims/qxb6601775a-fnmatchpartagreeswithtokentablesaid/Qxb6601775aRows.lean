/-
  No cell of these rows narrows 'for every input' (looked for: loops, veiled, ifaces, maps, wideKeys, modest, calm, conditions, laid).
  DERIVED. THE GIVEN ROWS OF THIS SEAT. 7 by the template 'for every input the law returns true; each argument reads behind the call as it read before'; 0 by the template 'total and deterministic' (their statements: Qxb6601775aTotals.lean).
  GIVEN WITH THE SEED: the statements are not yours to turn. If you find one false, say at which input.
  Laid BY PROGRAM, IN A SANDBOX (cutbox-rows.mjs): the forced cells as the released guide's own fill.sh prints them over the translation 40e565a23858c552… (all of the seat's roots in one cut). By AI agents, Wed Nov 11 2026. No macro, syntax, notation, axiom, sorry.
-/
import Derived.Test.Qxb6601775aChecked
import GoSem.Claim
import GoSem.ClaimJoined
import GoSem.ClaimMapViews
import Derived.JoinedTies
import Derived.KernelRfl
namespace Go.Proofs.Qxb6601775a
/- THE CELL 'sum', in the pinned program and in every row, IS THE sha256 OF THE DUMP (.gsa) THAT Qxb6601775aProg.lean LOADS. Nothing in Lean hashes anything: it is a label: what it is worth is what the hold of that sum in a sandbox is worth. -/
noncomputable def Try.pinned : Pinned := { name := "qxb6601775a", sum := "40e565a23858c552712c8e2e8c0ea5da7c8110384d4a306eebe573d99b877bb8", checked := Try.checked }
namespace Rows
def none {H : Type} : Left H := { results := [], args := [] }

/-- 'zzlaws_internal_git_b1.FnIsClassAgreesWithMemberLists': WHATEVER THE INPUT: true; the input reads as it did. -/
def fnIsClassAgreesWithMemberListsSpec : ChangeSpec := { name := "fnIsClassAgreesWithMemberLists", fn := fun _ => fun
  | [d1, d2] => { results := [.lit (.bool true)], args := [d1, d2] }
  | _ => none }
def fnIsClassAgreesWithMemberListsRow : OpenClaim := { program := "qxb6601775a", sum := "40e565a23858c552712c8e2e8c0ea5da7c8110384d4a306eebe573d99b877bb8", func := "example.com/loopwright/loopwright/zzlaws_internal_git_b1.FnIsClassAgreesWithMemberLists", spec := "fnIsClassAgreesWithMemberLists", apart := false }
def FnIsClassAgreesWithMemberListsSaid : Prop := fnIsClassAgreesWithMemberListsRow.holds Try.pinned (OpenSpec.ofChange fnIsClassAgreesWithMemberListsSpec)

/-- ITS FALSE NEIGHBOUR: 'it returns false'. Refute it at one input. -/
def fnIsClassAgreesWithMemberListsWrong : ChangeSpec := { name := "fnIsClassAgreesWithMemberLists", fn := fun _ => fun
  | [d1, d2] => { results := [.lit (.bool false)], args := [d1, d2] }
  | _ => none }
def FnIsClassAgreesWithMemberListsWrongFalsely : Prop := fnIsClassAgreesWithMemberListsRow.holds Try.pinned (OpenSpec.ofChange fnIsClassAgreesWithMemberListsWrong)

/-- 'zzlaws_internal_git_b1.FnIsClassFamiliesNest': WHATEVER THE INPUT: true; the input reads as it did. -/
def fnIsClassFamiliesNestSpec : ChangeSpec := { name := "fnIsClassFamiliesNest", fn := fun _ => fun
  | [d] => { results := [.lit (.bool true)], args := [d] }
  | _ => none }
def fnIsClassFamiliesNestRow : OpenClaim := { program := "qxb6601775a", sum := "40e565a23858c552712c8e2e8c0ea5da7c8110384d4a306eebe573d99b877bb8", func := "example.com/loopwright/loopwright/zzlaws_internal_git_b1.FnIsClassFamiliesNest", spec := "fnIsClassFamiliesNest", apart := false }
def FnIsClassFamiliesNestSaid : Prop := fnIsClassFamiliesNestRow.holds Try.pinned (OpenSpec.ofChange fnIsClassFamiliesNestSpec)

/-- ITS FALSE NEIGHBOUR: 'it returns false'. Refute it at one input. -/
def fnIsClassFamiliesNestWrong : ChangeSpec := { name := "fnIsClassFamiliesNest", fn := fun _ => fun
  | [d] => { results := [.lit (.bool false)], args := [d] }
  | _ => none }
def FnIsClassFamiliesNestWrongFalsely : Prop := fnIsClassFamiliesNestRow.holds Try.pinned (OpenSpec.ofChange fnIsClassFamiliesNestWrong)

/-- 'zzlaws_internal_git_b1.FnMatchBracketParseIgnoresByte': WHATEVER THE INPUT: true; the input reads as it did. -/
def fnMatchBracketParseIgnoresByteSpec : ChangeSpec := { name := "fnMatchBracketParseIgnoresByte", fn := fun _ => fun
  | [d1, d2, d3, d4] => { results := [.lit (.bool true)], args := [d1, d2, d3, d4] }
  | _ => none }
def fnMatchBracketParseIgnoresByteRow : OpenClaim := { program := "qxb6601775a", sum := "40e565a23858c552712c8e2e8c0ea5da7c8110384d4a306eebe573d99b877bb8", func := "example.com/loopwright/loopwright/zzlaws_internal_git_b1.FnMatchBracketParseIgnoresByte", spec := "fnMatchBracketParseIgnoresByte", inPlace := ["internal/bytealg.IndexByteString"], apart := false }
def FnMatchBracketParseIgnoresByteSaid : Prop := fnMatchBracketParseIgnoresByteRow.holds Try.pinned (OpenSpec.ofChange fnMatchBracketParseIgnoresByteSpec)

/-- ITS FALSE NEIGHBOUR: 'it returns false'. Refute it at one input. -/
def fnMatchBracketParseIgnoresByteWrong : ChangeSpec := { name := "fnMatchBracketParseIgnoresByte", fn := fun _ => fun
  | [d1, d2, d3, d4] => { results := [.lit (.bool false)], args := [d1, d2, d3, d4] }
  | _ => none }
def FnMatchBracketParseIgnoresByteWrongFalsely : Prop := fnMatchBracketParseIgnoresByteRow.holds Try.pinned (OpenSpec.ofChange fnMatchBracketParseIgnoresByteWrong)

/-- 'zzlaws_internal_git_b1.FnMatchBracketNegationFlips': WHATEVER THE INPUT: true; the input reads as it did. -/
def fnMatchBracketNegationFlipsSpec : ChangeSpec := { name := "fnMatchBracketNegationFlips", fn := fun _ => fun
  | [d1, d2, d3] => { results := [.lit (.bool true)], args := [d1, d2, d3] }
  | _ => none }
def fnMatchBracketNegationFlipsRow : OpenClaim := { program := "qxb6601775a", sum := "40e565a23858c552712c8e2e8c0ea5da7c8110384d4a306eebe573d99b877bb8", func := "example.com/loopwright/loopwright/zzlaws_internal_git_b1.FnMatchBracketNegationFlips", spec := "fnMatchBracketNegationFlips", inPlace := ["internal/bytealg.IndexByteString"], apart := false }
def FnMatchBracketNegationFlipsSaid : Prop := fnMatchBracketNegationFlipsRow.holds Try.pinned (OpenSpec.ofChange fnMatchBracketNegationFlipsSpec)

/-- ITS FALSE NEIGHBOUR: 'it returns false'. Refute it at one input. -/
def fnMatchBracketNegationFlipsWrong : ChangeSpec := { name := "fnMatchBracketNegationFlips", fn := fun _ => fun
  | [d1, d2, d3] => { results := [.lit (.bool false)], args := [d1, d2, d3] }
  | _ => none }
def FnMatchBracketNegationFlipsWrongFalsely : Prop := fnMatchBracketNegationFlipsRow.holds Try.pinned (OpenSpec.ofChange fnMatchBracketNegationFlipsWrong)

/-- 'zzlaws_internal_git_b1.FnMatchPartAgreesWithTokenTable': WHATEVER THE INPUT: true; the input reads as it did. -/
def fnMatchPartAgreesWithTokenTableSpec : ChangeSpec := { name := "fnMatchPartAgreesWithTokenTable", fn := fun _ => fun
  | [d1, d2] => { results := [.lit (.bool true)], args := [d1, d2] }
  | _ => none }
def fnMatchPartAgreesWithTokenTableRow : OpenClaim := { program := "qxb6601775a", sum := "40e565a23858c552712c8e2e8c0ea5da7c8110384d4a306eebe573d99b877bb8", func := "example.com/loopwright/loopwright/zzlaws_internal_git_b1.FnMatchPartAgreesWithTokenTable", spec := "fnMatchPartAgreesWithTokenTable", inPlace := ["internal/bytealg.IndexByteString"], apart := false }
def FnMatchPartAgreesWithTokenTableSaid : Prop := fnMatchPartAgreesWithTokenTableRow.holds Try.pinned (OpenSpec.ofChange fnMatchPartAgreesWithTokenTableSpec)

/-- ITS FALSE NEIGHBOUR: 'it returns false'. Refute it at one input. -/
def fnMatchPartAgreesWithTokenTableWrong : ChangeSpec := { name := "fnMatchPartAgreesWithTokenTable", fn := fun _ => fun
  | [d1, d2] => { results := [.lit (.bool false)], args := [d1, d2] }
  | _ => none }
def FnMatchPartAgreesWithTokenTableWrongFalsely : Prop := fnMatchPartAgreesWithTokenTableRow.holds Try.pinned (OpenSpec.ofChange fnMatchPartAgreesWithTokenTableWrong)

/-- 'zzlaws_internal_git_b1.FnMatchPartPlainPatternIsEquality': WHATEVER THE INPUT: true; the input reads as it did. -/
def fnMatchPartPlainPatternIsEqualitySpec : ChangeSpec := { name := "fnMatchPartPlainPatternIsEquality", fn := fun _ => fun
  | [d1, d2] => { results := [.lit (.bool true)], args := [d1, d2] }
  | _ => none }
def fnMatchPartPlainPatternIsEqualityRow : OpenClaim := { program := "qxb6601775a", sum := "40e565a23858c552712c8e2e8c0ea5da7c8110384d4a306eebe573d99b877bb8", func := "example.com/loopwright/loopwright/zzlaws_internal_git_b1.FnMatchPartPlainPatternIsEquality", spec := "fnMatchPartPlainPatternIsEquality", inPlace := ["internal/bytealg.IndexByteString"], apart := false }
def FnMatchPartPlainPatternIsEqualitySaid : Prop := fnMatchPartPlainPatternIsEqualityRow.holds Try.pinned (OpenSpec.ofChange fnMatchPartPlainPatternIsEqualitySpec)

/-- ITS FALSE NEIGHBOUR: 'it returns false'. Refute it at one input. -/
def fnMatchPartPlainPatternIsEqualityWrong : ChangeSpec := { name := "fnMatchPartPlainPatternIsEquality", fn := fun _ => fun
  | [d1, d2] => { results := [.lit (.bool false)], args := [d1, d2] }
  | _ => none }
def FnMatchPartPlainPatternIsEqualityWrongFalsely : Prop := fnMatchPartPlainPatternIsEqualityRow.holds Try.pinned (OpenSpec.ofChange fnMatchPartPlainPatternIsEqualityWrong)

/-- 'zzlaws_internal_git_b1.FnMatchPartLiteralMatchesItself': WHATEVER THE INPUT: true; the input reads as it did. -/
def fnMatchPartLiteralMatchesItselfSpec : ChangeSpec := { name := "fnMatchPartLiteralMatchesItself", fn := fun _ => fun
  | [d] => { results := [.lit (.bool true)], args := [d] }
  | _ => none }
def fnMatchPartLiteralMatchesItselfRow : OpenClaim := { program := "qxb6601775a", sum := "40e565a23858c552712c8e2e8c0ea5da7c8110384d4a306eebe573d99b877bb8", func := "example.com/loopwright/loopwright/zzlaws_internal_git_b1.FnMatchPartLiteralMatchesItself", spec := "fnMatchPartLiteralMatchesItself", inPlace := ["internal/bytealg.IndexByteString"], apart := false }
def FnMatchPartLiteralMatchesItselfSaid : Prop := fnMatchPartLiteralMatchesItselfRow.holds Try.pinned (OpenSpec.ofChange fnMatchPartLiteralMatchesItselfSpec)

/-- ITS FALSE NEIGHBOUR: 'it returns false'. Refute it at one input. -/
def fnMatchPartLiteralMatchesItselfWrong : ChangeSpec := { name := "fnMatchPartLiteralMatchesItself", fn := fun _ => fun
  | [d] => { results := [.lit (.bool false)], args := [d] }
  | _ => none }
def FnMatchPartLiteralMatchesItselfWrongFalsely : Prop := fnMatchPartLiteralMatchesItselfRow.holds Try.pinned (OpenSpec.ofChange fnMatchPartLiteralMatchesItselfWrong)

end Rows
end Go.Proofs.Qxb6601775a
