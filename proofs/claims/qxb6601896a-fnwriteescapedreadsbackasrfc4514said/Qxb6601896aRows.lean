/-
  No cell of these rows narrows 'for every input' (looked for: loops, veiled, ifaces, maps, wideKeys, modest, calm, conditions, laid).
  DERIVED. THE GIVEN ROWS OF THIS SEAT. 6 by the template 'for every input the law returns true; each argument reads behind the call as it read before'; 0 by the template 'total and deterministic' (their statements: Qxb6601896aTotals.lean).
  GIVEN WITH THE SEED: the statements are not yours to turn. If you find one false, say at which input.
  Laid BY PROGRAM, IN A SANDBOX (cutbox-rows.mjs): the forced cells as the released guide's own fill.sh prints them over the translation 716027f72e1c08c6… (all of the seat's roots in one cut). By AI agents, Wed Nov 11 2026. No macro, syntax, notation, axiom, sorry.
-/
import Derived.Test.Qxb6601896aChecked
import GoSem.Claim
import GoSem.ClaimJoined
import GoSem.ClaimMapViews
import Derived.JoinedTies
import Derived.KernelRfl
namespace Go.Proofs.Qxb6601896a
/- THE CELL 'sum', in the pinned program and in every row, IS THE sha256 OF THE DUMP (.gsa) THAT Qxb6601896aProg.lean LOADS. Nothing in Lean hashes anything: it is a label: what it is worth is what the hold of that sum in a sandbox is worth. -/
noncomputable def Try.pinned : Pinned := { name := "qxb6601896a", sum := "716027f72e1c08c63f3d12c420d782929d8f90802998419f43205f082ab4aeed", checked := Try.checked }
namespace Rows
def none {H : Type} : Left H := { results := [], args := [] }

/-- 'zzlaws_internal_der_b1.FnAppendLengthMatchesModel': WHATEVER THE INPUT: true; the input reads as it did. -/
def fnAppendLengthMatchesModelSpec : ChangeSpec := { name := "fnAppendLengthMatchesModel", fn := fun _ => fun
  | [d1, d2] => { results := [.lit (.bool true)], args := [d1, d2] }
  | _ => none }
def fnAppendLengthMatchesModelRow : OpenClaim := { program := "qxb6601896a", sum := "716027f72e1c08c63f3d12c420d782929d8f90802998419f43205f082ab4aeed", func := "example.com/attestation-codec/attestation-codec/zzlaws_internal_der_b1.FnAppendLengthMatchesModel", spec := "fnAppendLengthMatchesModel", apart := false }
def FnAppendLengthMatchesModelSaid : Prop := fnAppendLengthMatchesModelRow.holds Try.pinned (OpenSpec.ofChange fnAppendLengthMatchesModelSpec)

/-- ITS FALSE NEIGHBOUR: 'it returns false'. Refute it at one input. -/
def fnAppendLengthMatchesModelWrong : ChangeSpec := { name := "fnAppendLengthMatchesModel", fn := fun _ => fun
  | [d1, d2] => { results := [.lit (.bool false)], args := [d1, d2] }
  | _ => none }
def FnAppendLengthMatchesModelWrongFalsely : Prop := fnAppendLengthMatchesModelRow.holds Try.pinned (OpenSpec.ofChange fnAppendLengthMatchesModelWrong)

/-- 'zzlaws_internal_der_b1.FnAppendLengthReadsBackAsShortestDER': WHATEVER THE INPUT: true; the input reads as it did. -/
def fnAppendLengthReadsBackAsShortestDERSpec : ChangeSpec := { name := "fnAppendLengthReadsBackAsShortestDER", fn := fun _ => fun
  | [d1, d2] => { results := [.lit (.bool true)], args := [d1, d2] }
  | _ => none }
def fnAppendLengthReadsBackAsShortestDERRow : OpenClaim := { program := "qxb6601896a", sum := "716027f72e1c08c63f3d12c420d782929d8f90802998419f43205f082ab4aeed", func := "example.com/attestation-codec/attestation-codec/zzlaws_internal_der_b1.FnAppendLengthReadsBackAsShortestDER", spec := "fnAppendLengthReadsBackAsShortestDER", apart := false }
def FnAppendLengthReadsBackAsShortestDERSaid : Prop := fnAppendLengthReadsBackAsShortestDERRow.holds Try.pinned (OpenSpec.ofChange fnAppendLengthReadsBackAsShortestDERSpec)

/-- ITS FALSE NEIGHBOUR: 'it returns false'. Refute it at one input. -/
def fnAppendLengthReadsBackAsShortestDERWrong : ChangeSpec := { name := "fnAppendLengthReadsBackAsShortestDER", fn := fun _ => fun
  | [d1, d2] => { results := [.lit (.bool false)], args := [d1, d2] }
  | _ => none }
def FnAppendLengthReadsBackAsShortestDERWrongFalsely : Prop := fnAppendLengthReadsBackAsShortestDERRow.holds Try.pinned (OpenSpec.ofChange fnAppendLengthReadsBackAsShortestDERWrong)

/-- 'zzlaws_internal_der_b1.FnAppendLengthKeepsNumericOrder': WHATEVER THE INPUT: true; the input reads as it did. -/
def fnAppendLengthKeepsNumericOrderSpec : ChangeSpec := { name := "fnAppendLengthKeepsNumericOrder", fn := fun _ => fun
  | [d1, d2] => { results := [.lit (.bool true)], args := [d1, d2] }
  | _ => none }
def fnAppendLengthKeepsNumericOrderRow : OpenClaim := { program := "qxb6601896a", sum := "716027f72e1c08c63f3d12c420d782929d8f90802998419f43205f082ab4aeed", func := "example.com/attestation-codec/attestation-codec/zzlaws_internal_der_b1.FnAppendLengthKeepsNumericOrder", spec := "fnAppendLengthKeepsNumericOrder", apart := false }
def FnAppendLengthKeepsNumericOrderSaid : Prop := fnAppendLengthKeepsNumericOrderRow.holds Try.pinned (OpenSpec.ofChange fnAppendLengthKeepsNumericOrderSpec)

/-- ITS FALSE NEIGHBOUR: 'it returns false'. Refute it at one input. -/
def fnAppendLengthKeepsNumericOrderWrong : ChangeSpec := { name := "fnAppendLengthKeepsNumericOrder", fn := fun _ => fun
  | [d1, d2] => { results := [.lit (.bool false)], args := [d1, d2] }
  | _ => none }
def FnAppendLengthKeepsNumericOrderWrongFalsely : Prop := fnAppendLengthKeepsNumericOrderRow.holds Try.pinned (OpenSpec.ofChange fnAppendLengthKeepsNumericOrderWrong)

/-- 'zzlaws_internal_der_b1.FnWriteEscapedReadsBackAsRFC4514': WHATEVER THE INPUT: true; the input reads as it did. -/
def fnWriteEscapedReadsBackAsRFC4514Spec : ChangeSpec := { name := "fnWriteEscapedReadsBackAsRFC4514", fn := fun _ => fun
  | [d] => { results := [.lit (.bool true)], args := [d] }
  | _ => none }
def fnWriteEscapedReadsBackAsRFC4514Row : OpenClaim := { program := "qxb6601896a", sum := "716027f72e1c08c63f3d12c420d782929d8f90802998419f43205f082ab4aeed", func := "example.com/attestation-codec/attestation-codec/zzlaws_internal_der_b1.FnWriteEscapedReadsBackAsRFC4514", spec := "fnWriteEscapedReadsBackAsRFC4514", inPlace := ["internal/abi.NoEscape", "internal/bytealg.IndexByteString", "internal/bytealg.IndexString"], named := ["internal/bytealg.MaxLen"], apart := false }
def FnWriteEscapedReadsBackAsRFC4514Said : Prop := fnWriteEscapedReadsBackAsRFC4514Row.holds Try.pinned (OpenSpec.ofChange fnWriteEscapedReadsBackAsRFC4514Spec)

/-- ITS FALSE NEIGHBOUR: 'it returns false'. Refute it at one input. -/
def fnWriteEscapedReadsBackAsRFC4514Wrong : ChangeSpec := { name := "fnWriteEscapedReadsBackAsRFC4514", fn := fun _ => fun
  | [d] => { results := [.lit (.bool false)], args := [d] }
  | _ => none }
def FnWriteEscapedReadsBackAsRFC4514WrongFalsely : Prop := fnWriteEscapedReadsBackAsRFC4514Row.holds Try.pinned (OpenSpec.ofChange fnWriteEscapedReadsBackAsRFC4514Wrong)

/-- 'zzlaws_internal_der_b1.FnWriteEscapedOutputIsUTF8AndBounded': WHATEVER THE INPUT: true; the input reads as it did. -/
def fnWriteEscapedOutputIsUTF8AndBoundedSpec : ChangeSpec := { name := "fnWriteEscapedOutputIsUTF8AndBounded", fn := fun _ => fun
  | [d] => { results := [.lit (.bool true)], args := [d] }
  | _ => none }
def fnWriteEscapedOutputIsUTF8AndBoundedRow : OpenClaim := { program := "qxb6601896a", sum := "716027f72e1c08c63f3d12c420d782929d8f90802998419f43205f082ab4aeed", func := "example.com/attestation-codec/attestation-codec/zzlaws_internal_der_b1.FnWriteEscapedOutputIsUTF8AndBounded", spec := "fnWriteEscapedOutputIsUTF8AndBounded", inPlace := ["internal/abi.NoEscape", "internal/bytealg.IndexByteString", "internal/bytealg.IndexString"], named := ["internal/bytealg.MaxLen"], apart := false }
def FnWriteEscapedOutputIsUTF8AndBoundedSaid : Prop := fnWriteEscapedOutputIsUTF8AndBoundedRow.holds Try.pinned (OpenSpec.ofChange fnWriteEscapedOutputIsUTF8AndBoundedSpec)

/-- ITS FALSE NEIGHBOUR: 'it returns false'. Refute it at one input. -/
def fnWriteEscapedOutputIsUTF8AndBoundedWrong : ChangeSpec := { name := "fnWriteEscapedOutputIsUTF8AndBounded", fn := fun _ => fun
  | [d] => { results := [.lit (.bool false)], args := [d] }
  | _ => none }
def FnWriteEscapedOutputIsUTF8AndBoundedWrongFalsely : Prop := fnWriteEscapedOutputIsUTF8AndBoundedRow.holds Try.pinned (OpenSpec.ofChange fnWriteEscapedOutputIsUTF8AndBoundedWrong)

/-- 'zzlaws_internal_der_b1.FnDigitsSplitsOverConcatenation': WHATEVER THE INPUT: true; the input reads as it did. -/
def fnDigitsSplitsOverConcatenationSpec : ChangeSpec := { name := "fnDigitsSplitsOverConcatenation", fn := fun _ => fun
  | [d1, d2] => { results := [.lit (.bool true)], args := [d1, d2] }
  | _ => none }
def fnDigitsSplitsOverConcatenationRow : OpenClaim := { program := "qxb6601896a", sum := "716027f72e1c08c63f3d12c420d782929d8f90802998419f43205f082ab4aeed", func := "example.com/attestation-codec/attestation-codec/zzlaws_internal_der_b1.FnDigitsSplitsOverConcatenation", spec := "fnDigitsSplitsOverConcatenation", apart := false }
def FnDigitsSplitsOverConcatenationSaid : Prop := fnDigitsSplitsOverConcatenationRow.holds Try.pinned (OpenSpec.ofChange fnDigitsSplitsOverConcatenationSpec)

/-- ITS FALSE NEIGHBOUR: 'it returns false'. Refute it at one input. -/
def fnDigitsSplitsOverConcatenationWrong : ChangeSpec := { name := "fnDigitsSplitsOverConcatenation", fn := fun _ => fun
  | [d1, d2] => { results := [.lit (.bool false)], args := [d1, d2] }
  | _ => none }
def FnDigitsSplitsOverConcatenationWrongFalsely : Prop := fnDigitsSplitsOverConcatenationRow.holds Try.pinned (OpenSpec.ofChange fnDigitsSplitsOverConcatenationWrong)

end Rows
end Go.Proofs.Qxb6601896a
