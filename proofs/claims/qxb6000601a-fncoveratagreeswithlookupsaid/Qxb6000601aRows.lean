/-
  No cell of these rows narrows 'for every input' (looked for: loops, veiled, ifaces, maps, wideKeys, modest, calm, conditions, laid).
  DERIVED. THE GIVEN ROWS OF THIS SEAT. 7 by the template 'for every input the law returns true; each argument reads behind the call as it read before'; 0 by the template 'total and deterministic' (their statements: Qxb6000601aTotals.lean).
  GIVEN WITH THE SEED: the statements are not yours to turn. If you find one false, say at which input.
  Laid BY PROGRAM, IN A SANDBOX (cutbox-rows.mjs): the forced cells as the released guide's own fill.sh prints them over the translation 6604f1c80eddc205… (all of the seat's roots in one cut). By AI agents, Wed Nov 11 2026. No macro, syntax, notation, axiom, sorry.
-/
import Derived.Test.Qxb6000601aChecked
import GoSem.Claim
import GoSem.ClaimJoined
import GoSem.ClaimMapViews
import Derived.JoinedTies
import Derived.KernelRfl
namespace Go.Proofs.Qxb6000601a
/- THE CELL 'sum', in the pinned program and in every row, IS THE sha256 OF THE DUMP (.gsa) THAT Qxb6000601aProg.lean LOADS. Nothing in Lean hashes anything: it is a label: what it is worth is what the hold of that sum in a sandbox is worth. -/
noncomputable def Try.pinned : Pinned := { name := "qxb6000601a", sum := "6604f1c80eddc205bd1e986d7e5eac9a1acefa890489403f2a1e6686a336552e", checked := Try.checked }
namespace Rows
def none {H : Type} : Left H := { results := [], args := [] }

/-- 'zzlaws_vcdiff_b1.FnDefaultCodeTableMatchesRFCTable': WHATEVER THE INPUT: true; the input reads as it did. -/
def fnDefaultCodeTableMatchesRFCTableSpec : ChangeSpec := { name := "fnDefaultCodeTableMatchesRFCTable", fn := fun _ => fun
  | [] => { results := [.lit (.bool true)], args := [] }
  | _ => none }
def fnDefaultCodeTableMatchesRFCTableRow : OpenClaim := { program := "qxb6000601a", sum := "6604f1c80eddc205bd1e986d7e5eac9a1acefa890489403f2a1e6686a336552e", func := "example.com/palimpsest/palimpsest/zzlaws_vcdiff_b1.FnDefaultCodeTableMatchesRFCTable", spec := "fnDefaultCodeTableMatchesRFCTable", unfollowed := true, recurses := true, apart := false }
def FnDefaultCodeTableMatchesRFCTableSaid : Prop := fnDefaultCodeTableMatchesRFCTableRow.holds Try.pinned (OpenSpec.ofChange fnDefaultCodeTableMatchesRFCTableSpec)

/-- ITS FALSE NEIGHBOUR: 'it returns false'. Refute it at one input. -/
def fnDefaultCodeTableMatchesRFCTableWrong : ChangeSpec := { name := "fnDefaultCodeTableMatchesRFCTable", fn := fun _ => fun
  | [] => { results := [.lit (.bool false)], args := [] }
  | _ => none }
def FnDefaultCodeTableMatchesRFCTableWrongFalsely : Prop := fnDefaultCodeTableMatchesRFCTableRow.holds Try.pinned (OpenSpec.ofChange fnDefaultCodeTableMatchesRFCTableWrong)

/-- 'zzlaws_vcdiff_b1.FnDefaultCodeTableIsInjective': WHATEVER THE INPUT: true; the input reads as it did. -/
def fnDefaultCodeTableIsInjectiveSpec : ChangeSpec := { name := "fnDefaultCodeTableIsInjective", fn := fun _ => fun
  | [] => { results := [.lit (.bool true)], args := [] }
  | _ => none }
def fnDefaultCodeTableIsInjectiveRow : OpenClaim := { program := "qxb6000601a", sum := "6604f1c80eddc205bd1e986d7e5eac9a1acefa890489403f2a1e6686a336552e", func := "example.com/palimpsest/palimpsest/zzlaws_vcdiff_b1.FnDefaultCodeTableIsInjective", spec := "fnDefaultCodeTableIsInjective", unfollowed := true, recurses := true, apart := false }
def FnDefaultCodeTableIsInjectiveSaid : Prop := fnDefaultCodeTableIsInjectiveRow.holds Try.pinned (OpenSpec.ofChange fnDefaultCodeTableIsInjectiveSpec)

/-- ITS FALSE NEIGHBOUR: 'it returns false'. Refute it at one input. -/
def fnDefaultCodeTableIsInjectiveWrong : ChangeSpec := { name := "fnDefaultCodeTableIsInjective", fn := fun _ => fun
  | [] => { results := [.lit (.bool false)], args := [] }
  | _ => none }
def FnDefaultCodeTableIsInjectiveWrongFalsely : Prop := fnDefaultCodeTableIsInjectiveRow.holds Try.pinned (OpenSpec.ofChange fnDefaultCodeTableIsInjectiveWrong)

/-- 'zzlaws_vcdiff_b1.FnAppendCopyMatchesBytewiseCopy': WHATEVER THE INPUT: true; the input reads as it did. -/
def fnAppendCopyMatchesBytewiseCopySpec : ChangeSpec := { name := "fnAppendCopyMatchesBytewiseCopy", fn := fun _ => fun
  | [d1, d2, d3, d4, d5] => { results := [.lit (.bool true)], args := [d1, d2, d3, d4, d5] }
  | _ => none }
def fnAppendCopyMatchesBytewiseCopyRow : OpenClaim := { program := "qxb6000601a", sum := "6604f1c80eddc205bd1e986d7e5eac9a1acefa890489403f2a1e6686a336552e", func := "example.com/palimpsest/palimpsest/zzlaws_vcdiff_b1.FnAppendCopyMatchesBytewiseCopy", spec := "fnAppendCopyMatchesBytewiseCopy", apart := false }
def FnAppendCopyMatchesBytewiseCopySaid : Prop := fnAppendCopyMatchesBytewiseCopyRow.holds Try.pinned (OpenSpec.ofChange fnAppendCopyMatchesBytewiseCopySpec)

/-- ITS FALSE NEIGHBOUR: 'it returns false'. Refute it at one input. -/
def fnAppendCopyMatchesBytewiseCopyWrong : ChangeSpec := { name := "fnAppendCopyMatchesBytewiseCopy", fn := fun _ => fun
  | [d1, d2, d3, d4, d5] => { results := [.lit (.bool false)], args := [d1, d2, d3, d4, d5] }
  | _ => none }
def FnAppendCopyMatchesBytewiseCopyWrongFalsely : Prop := fnAppendCopyMatchesBytewiseCopyRow.holds Try.pinned (OpenSpec.ofChange fnAppendCopyMatchesBytewiseCopyWrong)

/-- 'zzlaws_vcdiff_b1.FnAppendCopySplits': WHATEVER THE INPUT: true; the input reads as it did. -/
def fnAppendCopySplitsSpec : ChangeSpec := { name := "fnAppendCopySplits", fn := fun _ => fun
  | [d1, d2, d3, d4, d5, d6] => { results := [.lit (.bool true)], args := [d1, d2, d3, d4, d5, d6] }
  | _ => none }
def fnAppendCopySplitsRow : OpenClaim := { program := "qxb6000601a", sum := "6604f1c80eddc205bd1e986d7e5eac9a1acefa890489403f2a1e6686a336552e", func := "example.com/palimpsest/palimpsest/zzlaws_vcdiff_b1.FnAppendCopySplits", spec := "fnAppendCopySplits", apart := false }
def FnAppendCopySplitsSaid : Prop := fnAppendCopySplitsRow.holds Try.pinned (OpenSpec.ofChange fnAppendCopySplitsSpec)

/-- ITS FALSE NEIGHBOUR: 'it returns false'. Refute it at one input. -/
def fnAppendCopySplitsWrong : ChangeSpec := { name := "fnAppendCopySplits", fn := fun _ => fun
  | [d1, d2, d3, d4, d5, d6] => { results := [.lit (.bool false)], args := [d1, d2, d3, d4, d5, d6] }
  | _ => none }
def FnAppendCopySplitsWrongFalsely : Prop := fnAppendCopySplitsRow.holds Try.pinned (OpenSpec.ofChange fnAppendCopySplitsWrong)

/-- 'zzlaws_vcdiff_b1.FnAppendCopyFromTargetIsPeriodic': WHATEVER THE INPUT: true; the input reads as it did. -/
def fnAppendCopyFromTargetIsPeriodicSpec : ChangeSpec := { name := "fnAppendCopyFromTargetIsPeriodic", fn := fun _ => fun
  | [d1, d2, d3, d4, d5] => { results := [.lit (.bool true)], args := [d1, d2, d3, d4, d5] }
  | _ => none }
def fnAppendCopyFromTargetIsPeriodicRow : OpenClaim := { program := "qxb6000601a", sum := "6604f1c80eddc205bd1e986d7e5eac9a1acefa890489403f2a1e6686a336552e", func := "example.com/palimpsest/palimpsest/zzlaws_vcdiff_b1.FnAppendCopyFromTargetIsPeriodic", spec := "fnAppendCopyFromTargetIsPeriodic", apart := false }
def FnAppendCopyFromTargetIsPeriodicSaid : Prop := fnAppendCopyFromTargetIsPeriodicRow.holds Try.pinned (OpenSpec.ofChange fnAppendCopyFromTargetIsPeriodicSpec)

/-- ITS FALSE NEIGHBOUR: 'it returns false'. Refute it at one input. -/
def fnAppendCopyFromTargetIsPeriodicWrong : ChangeSpec := { name := "fnAppendCopyFromTargetIsPeriodic", fn := fun _ => fun
  | [d1, d2, d3, d4, d5] => { results := [.lit (.bool false)], args := [d1, d2, d3, d4, d5] }
  | _ => none }
def FnAppendCopyFromTargetIsPeriodicWrongFalsely : Prop := fnAppendCopyFromTargetIsPeriodicRow.holds Try.pinned (OpenSpec.ofChange fnAppendCopyFromTargetIsPeriodicWrong)

/-- 'zzlaws_vcdiff_b1.FnCoverAtAgreesWithLookup': WHATEVER THE INPUT: true; the input reads as it did. -/
def fnCoverAtAgreesWithLookupSpec : ChangeSpec := { name := "fnCoverAtAgreesWithLookup", fn := fun _ => fun
  | [d1, d2, d3, d4, d5, d6, d7] => { results := [.lit (.bool true)], args := [d1, d2, d3, d4, d5, d6, d7] }
  | _ => none }
def fnCoverAtAgreesWithLookupRow : OpenClaim := { program := "qxb6000601a", sum := "6604f1c80eddc205bd1e986d7e5eac9a1acefa890489403f2a1e6686a336552e", func := "example.com/palimpsest/palimpsest/zzlaws_vcdiff_b1.FnCoverAtAgreesWithLookup", spec := "fnCoverAtAgreesWithLookup", apart := false }
def FnCoverAtAgreesWithLookupSaid : Prop := fnCoverAtAgreesWithLookupRow.holds Try.pinned (OpenSpec.ofChange fnCoverAtAgreesWithLookupSpec)

/-- ITS FALSE NEIGHBOUR: 'it returns false'. Refute it at one input. -/
def fnCoverAtAgreesWithLookupWrong : ChangeSpec := { name := "fnCoverAtAgreesWithLookup", fn := fun _ => fun
  | [d1, d2, d3, d4, d5, d6, d7] => { results := [.lit (.bool false)], args := [d1, d2, d3, d4, d5, d6, d7] }
  | _ => none }
def FnCoverAtAgreesWithLookupWrongFalsely : Prop := fnCoverAtAgreesWithLookupRow.holds Try.pinned (OpenSpec.ofChange fnCoverAtAgreesWithLookupWrong)

/-- 'zzlaws_vcdiff_b1.FnCoverAtCopiesFromBeforeHereWithinWindow': WHATEVER THE INPUT: true; the input reads as it did. -/
def fnCoverAtCopiesFromBeforeHereWithinWindowSpec : ChangeSpec := { name := "fnCoverAtCopiesFromBeforeHereWithinWindow", fn := fun _ => fun
  | [d1, d2, d3, d4, d5, d6, d7] => { results := [.lit (.bool true)], args := [d1, d2, d3, d4, d5, d6, d7] }
  | _ => none }
def fnCoverAtCopiesFromBeforeHereWithinWindowRow : OpenClaim := { program := "qxb6000601a", sum := "6604f1c80eddc205bd1e986d7e5eac9a1acefa890489403f2a1e6686a336552e", func := "example.com/palimpsest/palimpsest/zzlaws_vcdiff_b1.FnCoverAtCopiesFromBeforeHereWithinWindow", spec := "fnCoverAtCopiesFromBeforeHereWithinWindow", apart := false }
def FnCoverAtCopiesFromBeforeHereWithinWindowSaid : Prop := fnCoverAtCopiesFromBeforeHereWithinWindowRow.holds Try.pinned (OpenSpec.ofChange fnCoverAtCopiesFromBeforeHereWithinWindowSpec)

/-- ITS FALSE NEIGHBOUR: 'it returns false'. Refute it at one input. -/
def fnCoverAtCopiesFromBeforeHereWithinWindowWrong : ChangeSpec := { name := "fnCoverAtCopiesFromBeforeHereWithinWindow", fn := fun _ => fun
  | [d1, d2, d3, d4, d5, d6, d7] => { results := [.lit (.bool false)], args := [d1, d2, d3, d4, d5, d6, d7] }
  | _ => none }
def FnCoverAtCopiesFromBeforeHereWithinWindowWrongFalsely : Prop := fnCoverAtCopiesFromBeforeHereWithinWindowRow.holds Try.pinned (OpenSpec.ofChange fnCoverAtCopiesFromBeforeHereWithinWindowWrong)

end Rows
end Go.Proofs.Qxb6000601a
