/-
  No cell of these rows narrows 'for every input' (looked for: loops, veiled, ifaces, maps, wideKeys, modest, calm, conditions, laid).
  DERIVED. THE GIVEN ROWS OF THIS SEAT. 4 by the template 'for every input the law returns true; each argument reads behind the call as it read before'; 0 by the template 'total and deterministic' (their statements: Qxb6602146aTotals.lean).
  GIVEN WITH THE SEED: the statements are not yours to turn. If you find one false, say at which input.
  Laid BY PROGRAM, IN A SANDBOX (cutbox-rows.mjs): the forced cells as the released guide's own fill.sh prints them over the translation 02d78a3ebde7de86… (all of the seat's roots in one cut). By AI agents, Wed Nov 11 2026. No macro, syntax, notation, axiom, sorry.
-/
import Derived.Test.Qxb6602146aChecked
import GoSem.Claim
import GoSem.ClaimJoined
import GoSem.ClaimMapViews
import Derived.JoinedTies
import Derived.KernelRfl
namespace Go.Proofs.Qxb6602146a
/- THE CELL 'sum', in the pinned program and in every row, IS THE sha256 OF THE DUMP (.gsa) THAT Qxb6602146aProg.lean LOADS. Nothing in Lean hashes anything: it is a label: what it is worth is what the hold of that sum in a sandbox is worth. -/
noncomputable def Try.pinned : Pinned := { name := "qxb6602146a", sum := "02d78a3ebde7de86dfbd18dda14a56166565eec5187955f6311da0d645185519", checked := Try.checked }
namespace Rows
def none {H : Type} : Left H := { results := [], args := [] }

/-- 'zzlaws_internal_fastpath_b1.FnHeadEndExactSpec': WHATEVER THE INPUT: true; the input reads as it did. -/
def fnHeadEndExactSpecSpec : ChangeSpec := { name := "fnHeadEndExactSpec", fn := fun _ => fun
  | [d] => { results := [.lit (.bool true)], args := [d] }
  | _ => none }
def fnHeadEndExactSpecRow : OpenClaim := { program := "qxb6602146a", sum := "02d78a3ebde7de86dfbd18dda14a56166565eec5187955f6311da0d645185519", func := "example.com/marmot/marmot/zzlaws_internal_fastpath_b1.FnHeadEndExactSpec", spec := "fnHeadEndExactSpec", inPlace := ["internal/bytealg.IndexByte"], apart := false }
def FnHeadEndExactSpecSaid : Prop := fnHeadEndExactSpecRow.holds Try.pinned (OpenSpec.ofChange fnHeadEndExactSpecSpec)

/-- ITS FALSE NEIGHBOUR: 'it returns false'. Refute it at one input. -/
def fnHeadEndExactSpecWrong : ChangeSpec := { name := "fnHeadEndExactSpec", fn := fun _ => fun
  | [d] => { results := [.lit (.bool false)], args := [d] }
  | _ => none }
def FnHeadEndExactSpecWrongFalsely : Prop := fnHeadEndExactSpecRow.holds Try.pinned (OpenSpec.ofChange fnHeadEndExactSpecWrong)

/-- 'zzlaws_internal_fastpath_b1.FnHeadEndSettledByPrefix': WHATEVER THE INPUT: true; the input reads as it did. -/
def fnHeadEndSettledByPrefixSpec : ChangeSpec := { name := "fnHeadEndSettledByPrefix", fn := fun _ => fun
  | [d1, d2] => { results := [.lit (.bool true)], args := [d1, d2] }
  | _ => none }
def fnHeadEndSettledByPrefixRow : OpenClaim := { program := "qxb6602146a", sum := "02d78a3ebde7de86dfbd18dda14a56166565eec5187955f6311da0d645185519", func := "example.com/marmot/marmot/zzlaws_internal_fastpath_b1.FnHeadEndSettledByPrefix", spec := "fnHeadEndSettledByPrefix", inPlace := ["internal/bytealg.IndexByte"], apart := false }
def FnHeadEndSettledByPrefixSaid : Prop := fnHeadEndSettledByPrefixRow.holds Try.pinned (OpenSpec.ofChange fnHeadEndSettledByPrefixSpec)

/-- ITS FALSE NEIGHBOUR: 'it returns false'. Refute it at one input. -/
def fnHeadEndSettledByPrefixWrong : ChangeSpec := { name := "fnHeadEndSettledByPrefix", fn := fun _ => fun
  | [d1, d2] => { results := [.lit (.bool false)], args := [d1, d2] }
  | _ => none }
def FnHeadEndSettledByPrefixWrongFalsely : Prop := fnHeadEndSettledByPrefixRow.holds Try.pinned (OpenSpec.ofChange fnHeadEndSettledByPrefixWrong)

/-- 'zzlaws_internal_fastpath_b1.FnReadLengthExactSpec': WHATEVER THE INPUT: true; the input reads as it did. -/
def fnReadLengthExactSpecSpec : ChangeSpec := { name := "fnReadLengthExactSpec", fn := fun _ => fun
  | [d1, d2] => { results := [.lit (.bool true)], args := [d1, d2] }
  | _ => none }
def fnReadLengthExactSpecRow : OpenClaim := { program := "qxb6602146a", sum := "02d78a3ebde7de86dfbd18dda14a56166565eec5187955f6311da0d645185519", func := "example.com/marmot/marmot/zzlaws_internal_fastpath_b1.FnReadLengthExactSpec", spec := "fnReadLengthExactSpec", apart := false }
def FnReadLengthExactSpecSaid : Prop := fnReadLengthExactSpecRow.holds Try.pinned (OpenSpec.ofChange fnReadLengthExactSpecSpec)

/-- ITS FALSE NEIGHBOUR: 'it returns false'. Refute it at one input. -/
def fnReadLengthExactSpecWrong : ChangeSpec := { name := "fnReadLengthExactSpec", fn := fun _ => fun
  | [d1, d2] => { results := [.lit (.bool false)], args := [d1, d2] }
  | _ => none }
def FnReadLengthExactSpecWrongFalsely : Prop := fnReadLengthExactSpecRow.holds Try.pinned (OpenSpec.ofChange fnReadLengthExactSpecWrong)

/-- 'zzlaws_internal_fastpath_b1.FnReadLengthOrderAgreesWithDigits': WHATEVER THE INPUT: true; the input reads as it did. -/
def fnReadLengthOrderAgreesWithDigitsSpec : ChangeSpec := { name := "fnReadLengthOrderAgreesWithDigits", fn := fun _ => fun
  | [d1, d2] => { results := [.lit (.bool true)], args := [d1, d2] }
  | _ => none }
def fnReadLengthOrderAgreesWithDigitsRow : OpenClaim := { program := "qxb6602146a", sum := "02d78a3ebde7de86dfbd18dda14a56166565eec5187955f6311da0d645185519", func := "example.com/marmot/marmot/zzlaws_internal_fastpath_b1.FnReadLengthOrderAgreesWithDigits", spec := "fnReadLengthOrderAgreesWithDigits", apart := false }
def FnReadLengthOrderAgreesWithDigitsSaid : Prop := fnReadLengthOrderAgreesWithDigitsRow.holds Try.pinned (OpenSpec.ofChange fnReadLengthOrderAgreesWithDigitsSpec)

/-- ITS FALSE NEIGHBOUR: 'it returns false'. Refute it at one input. -/
def fnReadLengthOrderAgreesWithDigitsWrong : ChangeSpec := { name := "fnReadLengthOrderAgreesWithDigits", fn := fun _ => fun
  | [d1, d2] => { results := [.lit (.bool false)], args := [d1, d2] }
  | _ => none }
def FnReadLengthOrderAgreesWithDigitsWrongFalsely : Prop := fnReadLengthOrderAgreesWithDigitsRow.holds Try.pinned (OpenSpec.ofChange fnReadLengthOrderAgreesWithDigitsWrong)

end Rows
end Go.Proofs.Qxb6602146a
