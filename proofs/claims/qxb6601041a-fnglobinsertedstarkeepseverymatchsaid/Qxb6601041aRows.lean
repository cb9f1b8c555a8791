/-
  No cell of these rows narrows 'for every input' (looked for: loops, veiled, ifaces, maps, wideKeys, modest, calm, conditions, laid).
  DERIVED. THE GIVEN ROWS OF THIS SEAT. 8 by the template 'for every input the law returns true; each argument reads behind the call as it read before'; 0 by the template 'total and deterministic' (their statements: Qxb6601041aTotals.lean).
  GIVEN WITH THE SEED: the statements are not yours to turn. If you find one false, say at which input.
  Laid BY PROGRAM, IN A SANDBOX (cutbox-rows.mjs): the forced cells as the released guide's own fill.sh prints them over the translation 7d706aebbb0a0726… (all of the seat's roots in one cut). By AI agents, Wed Nov 11 2026. No macro, syntax, notation, axiom, sorry.
-/
import Derived.Test.Qxb6601041aChecked
import GoSem.Claim
import GoSem.ClaimJoined
import GoSem.ClaimMapViews
import Derived.JoinedTies
import Derived.KernelRfl
namespace Go.Proofs.Qxb6601041a
/- THE CELL 'sum', in the pinned program and in every row, IS THE sha256 OF THE DUMP (.gsa) THAT Qxb6601041aProg.lean LOADS. Nothing in Lean hashes anything: it is a label: what it is worth is what the hold of that sum in a sandbox is worth. -/
noncomputable def Try.pinned : Pinned := { name := "qxb6601041a", sum := "7d706aebbb0a0726dc5512f98f19c82e57366e63a7f8303e56b868fa8f815f6f", checked := Try.checked }
namespace Rows
def none {H : Type} : Left H := { results := [], args := [] }

/-- 'zzlaws_rules_b1.FnGlobMatchesAgreesWithStarModel': WHATEVER THE INPUT: true; the input reads as it did. -/
def fnGlobMatchesAgreesWithStarModelSpec : ChangeSpec := { name := "fnGlobMatchesAgreesWithStarModel", fn := fun _ => fun
  | [d1, d2, d3, d4] => { results := [.lit (.bool true)], args := [d1, d2, d3, d4] }
  | _ => none }
def fnGlobMatchesAgreesWithStarModelRow : OpenClaim := { program := "qxb6601041a", sum := "7d706aebbb0a0726dc5512f98f19c82e57366e63a7f8303e56b868fa8f815f6f", func := "example.com/herald/herald/zzlaws_rules_b1.FnGlobMatchesAgreesWithStarModel", spec := "fnGlobMatchesAgreesWithStarModel", recurses := true, apart := false }
def FnGlobMatchesAgreesWithStarModelSaid : Prop := fnGlobMatchesAgreesWithStarModelRow.holds Try.pinned (OpenSpec.ofChange fnGlobMatchesAgreesWithStarModelSpec)

/-- ITS FALSE NEIGHBOUR: 'it returns false'. Refute it at one input. -/
def fnGlobMatchesAgreesWithStarModelWrong : ChangeSpec := { name := "fnGlobMatchesAgreesWithStarModel", fn := fun _ => fun
  | [d1, d2, d3, d4] => { results := [.lit (.bool false)], args := [d1, d2, d3, d4] }
  | _ => none }
def FnGlobMatchesAgreesWithStarModelWrongFalsely : Prop := fnGlobMatchesAgreesWithStarModelRow.holds Try.pinned (OpenSpec.ofChange fnGlobMatchesAgreesWithStarModelWrong)

/-- 'zzlaws_rules_b1.FnGlobWholeMatchImpliesWordMatch': WHATEVER THE INPUT: true; the input reads as it did. -/
def fnGlobWholeMatchImpliesWordMatchSpec : ChangeSpec := { name := "fnGlobWholeMatchImpliesWordMatch", fn := fun _ => fun
  | [d1, d2, d3] => { results := [.lit (.bool true)], args := [d1, d2, d3] }
  | _ => none }
def fnGlobWholeMatchImpliesWordMatchRow : OpenClaim := { program := "qxb6601041a", sum := "7d706aebbb0a0726dc5512f98f19c82e57366e63a7f8303e56b868fa8f815f6f", func := "example.com/herald/herald/zzlaws_rules_b1.FnGlobWholeMatchImpliesWordMatch", spec := "fnGlobWholeMatchImpliesWordMatch", recurses := true, apart := false }
def FnGlobWholeMatchImpliesWordMatchSaid : Prop := fnGlobWholeMatchImpliesWordMatchRow.holds Try.pinned (OpenSpec.ofChange fnGlobWholeMatchImpliesWordMatchSpec)

/-- ITS FALSE NEIGHBOUR: 'it returns false'. Refute it at one input. -/
def fnGlobWholeMatchImpliesWordMatchWrong : ChangeSpec := { name := "fnGlobWholeMatchImpliesWordMatch", fn := fun _ => fun
  | [d1, d2, d3] => { results := [.lit (.bool false)], args := [d1, d2, d3] }
  | _ => none }
def FnGlobWholeMatchImpliesWordMatchWrongFalsely : Prop := fnGlobWholeMatchImpliesWordMatchRow.holds Try.pinned (OpenSpec.ofChange fnGlobWholeMatchImpliesWordMatchWrong)

/-- 'zzlaws_rules_b1.FnGlobInsertedStarKeepsEveryMatch': WHATEVER THE INPUT: true; the input reads as it did. -/
def fnGlobInsertedStarKeepsEveryMatchSpec : ChangeSpec := { name := "fnGlobInsertedStarKeepsEveryMatch", fn := fun _ => fun
  | [d1, d2, d3, d4, d5] => { results := [.lit (.bool true)], args := [d1, d2, d3, d4, d5] }
  | _ => none }
def fnGlobInsertedStarKeepsEveryMatchRow : OpenClaim := { program := "qxb6601041a", sum := "7d706aebbb0a0726dc5512f98f19c82e57366e63a7f8303e56b868fa8f815f6f", func := "example.com/herald/herald/zzlaws_rules_b1.FnGlobInsertedStarKeepsEveryMatch", spec := "fnGlobInsertedStarKeepsEveryMatch", recurses := true, apart := false }
def FnGlobInsertedStarKeepsEveryMatchSaid : Prop := fnGlobInsertedStarKeepsEveryMatchRow.holds Try.pinned (OpenSpec.ofChange fnGlobInsertedStarKeepsEveryMatchSpec)

/-- ITS FALSE NEIGHBOUR: 'it returns false'. Refute it at one input. -/
def fnGlobInsertedStarKeepsEveryMatchWrong : ChangeSpec := { name := "fnGlobInsertedStarKeepsEveryMatch", fn := fun _ => fun
  | [d1, d2, d3, d4, d5] => { results := [.lit (.bool false)], args := [d1, d2, d3, d4, d5] }
  | _ => none }
def FnGlobInsertedStarKeepsEveryMatchWrongFalsely : Prop := fnGlobInsertedStarKeepsEveryMatchRow.holds Try.pinned (OpenSpec.ofChange fnGlobInsertedStarKeepsEveryMatchWrong)

/-- 'zzlaws_rules_b1.FnRunFindIsFirstFit': WHATEVER THE INPUT: true; the input reads as it did. -/
def fnRunFindIsFirstFitSpec : ChangeSpec := { name := "fnRunFindIsFirstFit", fn := fun _ => fun
  | [d1, d2, d3, d4, d5, d6] => { results := [.lit (.bool true)], args := [d1, d2, d3, d4, d5, d6] }
  | _ => none }
def fnRunFindIsFirstFitRow : OpenClaim := { program := "qxb6601041a", sum := "7d706aebbb0a0726dc5512f98f19c82e57366e63a7f8303e56b868fa8f815f6f", func := "example.com/herald/herald/zzlaws_rules_b1.FnRunFindIsFirstFit", spec := "fnRunFindIsFirstFit", recurses := true, apart := false }
def FnRunFindIsFirstFitSaid : Prop := fnRunFindIsFirstFitRow.holds Try.pinned (OpenSpec.ofChange fnRunFindIsFirstFitSpec)

/-- ITS FALSE NEIGHBOUR: 'it returns false'. Refute it at one input. -/
def fnRunFindIsFirstFitWrong : ChangeSpec := { name := "fnRunFindIsFirstFit", fn := fun _ => fun
  | [d1, d2, d3, d4, d5, d6] => { results := [.lit (.bool false)], args := [d1, d2, d3, d4, d5, d6] }
  | _ => none }
def FnRunFindIsFirstFitWrongFalsely : Prop := fnRunFindIsFirstFitRow.holds Try.pinned (OpenSpec.ofChange fnRunFindIsFirstFitWrong)

/-- 'zzlaws_rules_b1.FnRunFindResumesAtItsMatch': WHATEVER THE INPUT: true; the input reads as it did. -/
def fnRunFindResumesAtItsMatchSpec : ChangeSpec := { name := "fnRunFindResumesAtItsMatch", fn := fun _ => fun
  | [d1, d2, d3, d4, d5, d6] => { results := [.lit (.bool true)], args := [d1, d2, d3, d4, d5, d6] }
  | _ => none }
def fnRunFindResumesAtItsMatchRow : OpenClaim := { program := "qxb6601041a", sum := "7d706aebbb0a0726dc5512f98f19c82e57366e63a7f8303e56b868fa8f815f6f", func := "example.com/herald/herald/zzlaws_rules_b1.FnRunFindResumesAtItsMatch", spec := "fnRunFindResumesAtItsMatch", recurses := true, apart := false }
def FnRunFindResumesAtItsMatchSaid : Prop := fnRunFindResumesAtItsMatchRow.holds Try.pinned (OpenSpec.ofChange fnRunFindResumesAtItsMatchSpec)

/-- ITS FALSE NEIGHBOUR: 'it returns false'. Refute it at one input. -/
def fnRunFindResumesAtItsMatchWrong : ChangeSpec := { name := "fnRunFindResumesAtItsMatch", fn := fun _ => fun
  | [d1, d2, d3, d4, d5, d6] => { results := [.lit (.bool false)], args := [d1, d2, d3, d4, d5, d6] }
  | _ => none }
def FnRunFindResumesAtItsMatchWrongFalsely : Prop := fnRunFindResumesAtItsMatchRow.holds Try.pinned (OpenSpec.ofChange fnRunFindResumesAtItsMatchWrong)

/-- 'zzlaws_rules_b1.FnRunFindWordEdgesOnlyDelay': WHATEVER THE INPUT: true; the input reads as it did. -/
def fnRunFindWordEdgesOnlyDelaySpec : ChangeSpec := { name := "fnRunFindWordEdgesOnlyDelay", fn := fun _ => fun
  | [d1, d2, d3, d4, d5, d6] => { results := [.lit (.bool true)], args := [d1, d2, d3, d4, d5, d6] }
  | _ => none }
def fnRunFindWordEdgesOnlyDelayRow : OpenClaim := { program := "qxb6601041a", sum := "7d706aebbb0a0726dc5512f98f19c82e57366e63a7f8303e56b868fa8f815f6f", func := "example.com/herald/herald/zzlaws_rules_b1.FnRunFindWordEdgesOnlyDelay", spec := "fnRunFindWordEdgesOnlyDelay", recurses := true, apart := false }
def FnRunFindWordEdgesOnlyDelaySaid : Prop := fnRunFindWordEdgesOnlyDelayRow.holds Try.pinned (OpenSpec.ofChange fnRunFindWordEdgesOnlyDelaySpec)

/-- ITS FALSE NEIGHBOUR: 'it returns false'. Refute it at one input. -/
def fnRunFindWordEdgesOnlyDelayWrong : ChangeSpec := { name := "fnRunFindWordEdgesOnlyDelay", fn := fun _ => fun
  | [d1, d2, d3, d4, d5, d6] => { results := [.lit (.bool false)], args := [d1, d2, d3, d4, d5, d6] }
  | _ => none }
def FnRunFindWordEdgesOnlyDelayWrongFalsely : Prop := fnRunFindWordEdgesOnlyDelayRow.holds Try.pinned (OpenSpec.ofChange fnRunFindWordEdgesOnlyDelayWrong)

/-- 'zzlaws_rules_b1.FnGlobAddLaysOutTwoRuns': WHATEVER THE INPUT: true; the input reads as it did. -/
def fnGlobAddLaysOutTwoRunsSpec : ChangeSpec := { name := "fnGlobAddLaysOutTwoRuns", fn := fun _ => fun
  | [d1, d2, d3, d4] => { results := [.lit (.bool true)], args := [d1, d2, d3, d4] }
  | _ => none }
def fnGlobAddLaysOutTwoRunsRow : OpenClaim := { program := "qxb6601041a", sum := "7d706aebbb0a0726dc5512f98f19c82e57366e63a7f8303e56b868fa8f815f6f", func := "example.com/herald/herald/zzlaws_rules_b1.FnGlobAddLaysOutTwoRuns", spec := "fnGlobAddLaysOutTwoRuns", recurses := true, apart := false }
def FnGlobAddLaysOutTwoRunsSaid : Prop := fnGlobAddLaysOutTwoRunsRow.holds Try.pinned (OpenSpec.ofChange fnGlobAddLaysOutTwoRunsSpec)

/-- ITS FALSE NEIGHBOUR: 'it returns false'. Refute it at one input. -/
def fnGlobAddLaysOutTwoRunsWrong : ChangeSpec := { name := "fnGlobAddLaysOutTwoRuns", fn := fun _ => fun
  | [d1, d2, d3, d4] => { results := [.lit (.bool false)], args := [d1, d2, d3, d4] }
  | _ => none }
def FnGlobAddLaysOutTwoRunsWrongFalsely : Prop := fnGlobAddLaysOutTwoRunsRow.holds Try.pinned (OpenSpec.ofChange fnGlobAddLaysOutTwoRunsWrong)

/-- 'zzlaws_rules_b1.FnGlobAddRunIndependentOfPrefix': WHATEVER THE INPUT: true; the input reads as it did. -/
def fnGlobAddRunIndependentOfPrefixSpec : ChangeSpec := { name := "fnGlobAddRunIndependentOfPrefix", fn := fun _ => fun
  | [d1, d2, d3] => { results := [.lit (.bool true)], args := [d1, d2, d3] }
  | _ => none }
def fnGlobAddRunIndependentOfPrefixRow : OpenClaim := { program := "qxb6601041a", sum := "7d706aebbb0a0726dc5512f98f19c82e57366e63a7f8303e56b868fa8f815f6f", func := "example.com/herald/herald/zzlaws_rules_b1.FnGlobAddRunIndependentOfPrefix", spec := "fnGlobAddRunIndependentOfPrefix", recurses := true, apart := false }
def FnGlobAddRunIndependentOfPrefixSaid : Prop := fnGlobAddRunIndependentOfPrefixRow.holds Try.pinned (OpenSpec.ofChange fnGlobAddRunIndependentOfPrefixSpec)

/-- ITS FALSE NEIGHBOUR: 'it returns false'. Refute it at one input. -/
def fnGlobAddRunIndependentOfPrefixWrong : ChangeSpec := { name := "fnGlobAddRunIndependentOfPrefix", fn := fun _ => fun
  | [d1, d2, d3] => { results := [.lit (.bool false)], args := [d1, d2, d3] }
  | _ => none }
def FnGlobAddRunIndependentOfPrefixWrongFalsely : Prop := fnGlobAddRunIndependentOfPrefixRow.holds Try.pinned (OpenSpec.ofChange fnGlobAddRunIndependentOfPrefixWrong)

end Rows
end Go.Proofs.Qxb6601041a
