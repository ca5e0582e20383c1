/-
  No cell of these rows narrows 'for every input' (looked for: loops, veiled, ifaces, maps, wideKeys, modest, calm, conditions, laid).
  DERIVED. THE GIVEN ROWS OF THIS SEAT. 5 by the template 'for every input the law returns true; each argument reads behind the call as it read before'; 0 by the template 'total and deterministic' (their statements: Qxb6602170aTotals.lean).
  GIVEN WITH THE SEED: the statements are not yours to turn. If you find one false, say at which input.
  Laid BY PROGRAM, IN A SANDBOX (cutbox-rows.mjs): the forced cells as the released guide's own fill.sh prints them over the translation 996b37e5747e6e3d… (all of the seat's roots in one cut). By AI agents, Wed Nov 11 2026. No macro, syntax, notation, axiom, sorry.
-/
import Derived.Test.Qxb6602170aChecked
import GoSem.Claim
import GoSem.ClaimJoined
import GoSem.ClaimMapViews
import Derived.JoinedTies
import Derived.KernelRfl
namespace Go.Proofs.Qxb6602170a
/- THE CELL 'sum', in the pinned program and in every row, IS THE sha256 OF THE DUMP (.gsa) THAT Qxb6602170aProg.lean LOADS. Nothing in Lean hashes anything: it is a label: what it is worth is what the hold of that sum in a sandbox is worth. -/
noncomputable def Try.pinned : Pinned := { name := "qxb6602170a", sum := "996b37e5747e6e3d37051df9e56e837a4a60fd18943e9165cc445b9809f53cf0", checked := Try.checked }
namespace Rows
def none {H : Type} : Left H := { results := [], args := [] }

/-- 'zzlaws_pkg_state_b1.FnIndexLastNewlineIsLastNewline': WHATEVER THE INPUT: true; the input reads as it did. -/
def fnIndexLastNewlineIsLastNewlineSpec : ChangeSpec := { name := "fnIndexLastNewlineIsLastNewline", fn := fun _ => fun
  | [d] => { results := [.lit (.bool true)], args := [d] }
  | _ => none }
def fnIndexLastNewlineIsLastNewlineRow : OpenClaim := { program := "qxb6602170a", sum := "996b37e5747e6e3d37051df9e56e837a4a60fd18943e9165cc445b9809f53cf0", func := "example.com/hookwright/hookwright/zzlaws_pkg_state_b1.FnIndexLastNewlineIsLastNewline", spec := "fnIndexLastNewlineIsLastNewline", inPlace := ["internal/bytealg.IndexByte"], apart := false }
def FnIndexLastNewlineIsLastNewlineSaid : Prop := fnIndexLastNewlineIsLastNewlineRow.holds Try.pinned (OpenSpec.ofChange fnIndexLastNewlineIsLastNewlineSpec)

/-- ITS FALSE NEIGHBOUR: 'it returns false'. Refute it at one input. -/
def fnIndexLastNewlineIsLastNewlineWrong : ChangeSpec := { name := "fnIndexLastNewlineIsLastNewline", fn := fun _ => fun
  | [d] => { results := [.lit (.bool false)], args := [d] }
  | _ => none }
def FnIndexLastNewlineIsLastNewlineWrongFalsely : Prop := fnIndexLastNewlineIsLastNewlineRow.holds Try.pinned (OpenSpec.ofChange fnIndexLastNewlineIsLastNewlineWrong)

/-- 'zzlaws_pkg_state_b1.FnIndexLastNewlineOfConcatenation': WHATEVER THE INPUT: true; the input reads as it did. -/
def fnIndexLastNewlineOfConcatenationSpec : ChangeSpec := { name := "fnIndexLastNewlineOfConcatenation", fn := fun _ => fun
  | [d1, d2] => { results := [.lit (.bool true)], args := [d1, d2] }
  | _ => none }
def fnIndexLastNewlineOfConcatenationRow : OpenClaim := { program := "qxb6602170a", sum := "996b37e5747e6e3d37051df9e56e837a4a60fd18943e9165cc445b9809f53cf0", func := "example.com/hookwright/hookwright/zzlaws_pkg_state_b1.FnIndexLastNewlineOfConcatenation", spec := "fnIndexLastNewlineOfConcatenation", inPlace := ["internal/bytealg.IndexByte"], apart := false }
def FnIndexLastNewlineOfConcatenationSaid : Prop := fnIndexLastNewlineOfConcatenationRow.holds Try.pinned (OpenSpec.ofChange fnIndexLastNewlineOfConcatenationSpec)

/-- ITS FALSE NEIGHBOUR: 'it returns false'. Refute it at one input. -/
def fnIndexLastNewlineOfConcatenationWrong : ChangeSpec := { name := "fnIndexLastNewlineOfConcatenation", fn := fun _ => fun
  | [d1, d2] => { results := [.lit (.bool false)], args := [d1, d2] }
  | _ => none }
def FnIndexLastNewlineOfConcatenationWrongFalsely : Prop := fnIndexLastNewlineOfConcatenationRow.holds Try.pinned (OpenSpec.ofChange fnIndexLastNewlineOfConcatenationWrong)

/-- 'zzlaws_pkg_state_b1.FnLeadingRevisionMatchesModel': WHATEVER THE INPUT: true; the input reads as it did. -/
def fnLeadingRevisionMatchesModelSpec : ChangeSpec := { name := "fnLeadingRevisionMatchesModel", fn := fun _ => fun
  | [d] => { results := [.lit (.bool true)], args := [d] }
  | _ => none }
def fnLeadingRevisionMatchesModelRow : OpenClaim := { program := "qxb6602170a", sum := "996b37e5747e6e3d37051df9e56e837a4a60fd18943e9165cc445b9809f53cf0", func := "example.com/hookwright/hookwright/zzlaws_pkg_state_b1.FnLeadingRevisionMatchesModel", spec := "fnLeadingRevisionMatchesModel", apart := false }
def FnLeadingRevisionMatchesModelSaid : Prop := fnLeadingRevisionMatchesModelRow.holds Try.pinned (OpenSpec.ofChange fnLeadingRevisionMatchesModelSpec)

/-- ITS FALSE NEIGHBOUR: 'it returns false'. Refute it at one input. -/
def fnLeadingRevisionMatchesModelWrong : ChangeSpec := { name := "fnLeadingRevisionMatchesModel", fn := fun _ => fun
  | [d] => { results := [.lit (.bool false)], args := [d] }
  | _ => none }
def FnLeadingRevisionMatchesModelWrongFalsely : Prop := fnLeadingRevisionMatchesModelRow.holds Try.pinned (OpenSpec.ofChange fnLeadingRevisionMatchesModelWrong)

/-- 'zzlaws_pkg_state_b1.FnLeadingRevisionReadsWrittenLine': WHATEVER THE INPUT: true; the input reads as it did. -/
def fnLeadingRevisionReadsWrittenLineSpec : ChangeSpec := { name := "fnLeadingRevisionReadsWrittenLine", fn := fun _ => fun
  | [d1, d2] => { results := [.lit (.bool true)], args := [d1, d2] }
  | _ => none }
def fnLeadingRevisionReadsWrittenLineRow : OpenClaim := { program := "qxb6602170a", sum := "996b37e5747e6e3d37051df9e56e837a4a60fd18943e9165cc445b9809f53cf0", func := "example.com/hookwright/hookwright/zzlaws_pkg_state_b1.FnLeadingRevisionReadsWrittenLine", spec := "fnLeadingRevisionReadsWrittenLine", apart := false }
def FnLeadingRevisionReadsWrittenLineSaid : Prop := fnLeadingRevisionReadsWrittenLineRow.holds Try.pinned (OpenSpec.ofChange fnLeadingRevisionReadsWrittenLineSpec)

/-- ITS FALSE NEIGHBOUR: 'it returns false'. Refute it at one input. -/
def fnLeadingRevisionReadsWrittenLineWrong : ChangeSpec := { name := "fnLeadingRevisionReadsWrittenLine", fn := fun _ => fun
  | [d1, d2] => { results := [.lit (.bool false)], args := [d1, d2] }
  | _ => none }
def FnLeadingRevisionReadsWrittenLineWrongFalsely : Prop := fnLeadingRevisionReadsWrittenLineRow.holds Try.pinned (OpenSpec.ofChange fnLeadingRevisionReadsWrittenLineWrong)

/-- 'zzlaws_pkg_state_b1.FnNextScriptCountsRunningStarts': WHATEVER THE INPUT: true; the input reads as it did. -/
def fnNextScriptCountsRunningStartsSpec : ChangeSpec := { name := "fnNextScriptCountsRunningStarts", fn := fun _ => fun
  | [d1, d2, d3, d4, d5, d6, d7, d8, d9, d10] => { results := [.lit (.bool true)], args := [d1, d2, d3, d4, d5, d6, d7, d8, d9, d10] }
  | _ => none }
def fnNextScriptCountsRunningStartsRow : OpenClaim := { program := "qxb6602170a", sum := "996b37e5747e6e3d37051df9e56e837a4a60fd18943e9165cc445b9809f53cf0", func := "example.com/hookwright/hookwright/zzlaws_pkg_state_b1.FnNextScriptCountsRunningStarts", spec := "fnNextScriptCountsRunningStarts", apart := false }
def FnNextScriptCountsRunningStartsSaid : Prop := fnNextScriptCountsRunningStartsRow.holds Try.pinned (OpenSpec.ofChange fnNextScriptCountsRunningStartsSpec)

/-- ITS FALSE NEIGHBOUR: 'it returns false'. Refute it at one input. -/
def fnNextScriptCountsRunningStartsWrong : ChangeSpec := { name := "fnNextScriptCountsRunningStarts", fn := fun _ => fun
  | [d1, d2, d3, d4, d5, d6, d7, d8, d9, d10] => { results := [.lit (.bool false)], args := [d1, d2, d3, d4, d5, d6, d7, d8, d9, d10] }
  | _ => none }
def FnNextScriptCountsRunningStartsWrongFalsely : Prop := fnNextScriptCountsRunningStartsRow.holds Try.pinned (OpenSpec.ofChange fnNextScriptCountsRunningStartsWrong)

end Rows
end Go.Proofs.Qxb6602170a
