/-
  No cell of these rows narrows 'for every input' (looked for: loops, veiled, ifaces, maps, wideKeys, modest, calm, conditions, laid).
  DERIVED. THE GIVEN ROWS OF THIS SEAT. 5 by the template 'for every input the law returns true; each argument reads behind the call as it read before'; 0 by the template 'total and deterministic' (their statements: Qxb6601102aTotals.lean).
  GIVEN WITH THE SEED: the statements are not yours to turn. If you find one false, say at which input.
  Laid BY PROGRAM, IN A SANDBOX (cutbox-rows.mjs): the forced cells as the released guide's own fill.sh prints them over the translation 22e50fe227caab56… (all of the seat's roots in one cut). By AI agents, Wed Nov 11 2026. No macro, syntax, notation, axiom, sorry.
-/
import Derived.Test.Qxb6601102aChecked
import GoSem.Claim
import GoSem.ClaimJoined
import GoSem.ClaimMapViews
import Derived.JoinedTies
import Derived.KernelRfl
namespace Go.Proofs.Qxb6601102a
/- THE CELL 'sum', in the pinned program and in every row, IS THE sha256 OF THE DUMP (.gsa) THAT Qxb6601102aProg.lean LOADS. Nothing in Lean hashes anything: it is a label: what it is worth is what the hold of that sum in a sandbox is worth. -/
noncomputable def Try.pinned : Pinned := { name := "qxb6601102a", sum := "22e50fe227caab56e009a0c447616cdba64b20ead5a60444a23d3058a89faf5c", checked := Try.checked }
namespace Rows
def none {H : Type} : Left H := { results := [], args := [] }

/-- 'zzlaws_internal_company_b1.FnPlaceMatchesRankingModel': WHATEVER THE INPUT: true; the input reads as it did. -/
def fnPlaceMatchesRankingModelSpec : ChangeSpec := { name := "fnPlaceMatchesRankingModel", fn := fun _ => fun
  | [d1, d2, d3, d4, d5, d6, d7] => { results := [.lit (.bool true)], args := [d1, d2, d3, d4, d5, d6, d7] }
  | _ => none }
def fnPlaceMatchesRankingModelRow : OpenClaim := { program := "qxb6601102a", sum := "22e50fe227caab56e009a0c447616cdba64b20ead5a60444a23d3058a89faf5c", func := "example.com/rollcall/rollcall/zzlaws_internal_company_b1.FnPlaceMatchesRankingModel", spec := "fnPlaceMatchesRankingModel", inPlace := ["internal/bytealg.abigen_runtime_cmpstring"], unfollowed := true, recurses := true, apart := false }
def FnPlaceMatchesRankingModelSaid : Prop := fnPlaceMatchesRankingModelRow.holds Try.pinned (OpenSpec.ofChange fnPlaceMatchesRankingModelSpec)

/-- ITS FALSE NEIGHBOUR: 'it returns false'. Refute it at one input. -/
def fnPlaceMatchesRankingModelWrong : ChangeSpec := { name := "fnPlaceMatchesRankingModel", fn := fun _ => fun
  | [d1, d2, d3, d4, d5, d6, d7] => { results := [.lit (.bool false)], args := [d1, d2, d3, d4, d5, d6, d7] }
  | _ => none }
def FnPlaceMatchesRankingModelWrongFalsely : Prop := fnPlaceMatchesRankingModelRow.holds Try.pinned (OpenSpec.ofChange fnPlaceMatchesRankingModelWrong)

/-- 'zzlaws_internal_company_b1.FnPlaceNotesEveryMembershipButTheSeat': WHATEVER THE INPUT: true; the input reads as it did. -/
def fnPlaceNotesEveryMembershipButTheSeatSpec : ChangeSpec := { name := "fnPlaceNotesEveryMembershipButTheSeat", fn := fun _ => fun
  | [d1, d2, d3, d4, d5, d6, d7] => { results := [.lit (.bool true)], args := [d1, d2, d3, d4, d5, d6, d7] }
  | _ => none }
def fnPlaceNotesEveryMembershipButTheSeatRow : OpenClaim := { program := "qxb6601102a", sum := "22e50fe227caab56e009a0c447616cdba64b20ead5a60444a23d3058a89faf5c", func := "example.com/rollcall/rollcall/zzlaws_internal_company_b1.FnPlaceNotesEveryMembershipButTheSeat", spec := "fnPlaceNotesEveryMembershipButTheSeat", inPlace := ["internal/bytealg.abigen_runtime_cmpstring"], unfollowed := true, recurses := true, apart := false }
def FnPlaceNotesEveryMembershipButTheSeatSaid : Prop := fnPlaceNotesEveryMembershipButTheSeatRow.holds Try.pinned (OpenSpec.ofChange fnPlaceNotesEveryMembershipButTheSeatSpec)

/-- ITS FALSE NEIGHBOUR: 'it returns false'. Refute it at one input. -/
def fnPlaceNotesEveryMembershipButTheSeatWrong : ChangeSpec := { name := "fnPlaceNotesEveryMembershipButTheSeat", fn := fun _ => fun
  | [d1, d2, d3, d4, d5, d6, d7] => { results := [.lit (.bool false)], args := [d1, d2, d3, d4, d5, d6, d7] }
  | _ => none }
def FnPlaceNotesEveryMembershipButTheSeatWrongFalsely : Prop := fnPlaceNotesEveryMembershipButTheSeatRow.holds Try.pinned (OpenSpec.ofChange fnPlaceNotesEveryMembershipButTheSeatWrong)

/-- 'zzlaws_internal_company_b1.FnReportsToTeamManagerHasNoTeamLine': WHATEVER THE INPUT: true; the input reads as it did. -/
def fnReportsToTeamManagerHasNoTeamLineSpec : ChangeSpec := { name := "fnReportsToTeamManagerHasNoTeamLine", fn := fun _ => fun
  | [d1, d2, d3, d4, d5, d6, d7, d8, d9] => { results := [.lit (.bool true)], args := [d1, d2, d3, d4, d5, d6, d7, d8, d9] }
  | _ => none }
def fnReportsToTeamManagerHasNoTeamLineRow : OpenClaim := { program := "qxb6601102a", sum := "22e50fe227caab56e009a0c447616cdba64b20ead5a60444a23d3058a89faf5c", func := "example.com/rollcall/rollcall/zzlaws_internal_company_b1.FnReportsToTeamManagerHasNoTeamLine", spec := "fnReportsToTeamManagerHasNoTeamLine", inPlace := ["internal/bytealg.abigen_runtime_cmpstring"], unfollowed := true, recurses := true, apart := false }
def FnReportsToTeamManagerHasNoTeamLineSaid : Prop := fnReportsToTeamManagerHasNoTeamLineRow.holds Try.pinned (OpenSpec.ofChange fnReportsToTeamManagerHasNoTeamLineSpec)

/-- ITS FALSE NEIGHBOUR: 'it returns false'. Refute it at one input. -/
def fnReportsToTeamManagerHasNoTeamLineWrong : ChangeSpec := { name := "fnReportsToTeamManagerHasNoTeamLine", fn := fun _ => fun
  | [d1, d2, d3, d4, d5, d6, d7, d8, d9] => { results := [.lit (.bool false)], args := [d1, d2, d3, d4, d5, d6, d7, d8, d9] }
  | _ => none }
def FnReportsToTeamManagerHasNoTeamLineWrongFalsely : Prop := fnReportsToTeamManagerHasNoTeamLineRow.holds Try.pinned (OpenSpec.ofChange fnReportsToTeamManagerHasNoTeamLineWrong)

/-- 'zzlaws_internal_company_b1.FnSourcesOfLongestEntryPrefix': WHATEVER THE INPUT: true; the input reads as it did. -/
def fnSourcesOfLongestEntryPrefixSpec : ChangeSpec := { name := "fnSourcesOfLongestEntryPrefix", fn := fun _ => fun
  | [d1, d2, d3, d4, d5] => { results := [.lit (.bool true)], args := [d1, d2, d3, d4, d5] }
  | _ => none }
def fnSourcesOfLongestEntryPrefixRow : OpenClaim := { program := "qxb6601102a", sum := "22e50fe227caab56e009a0c447616cdba64b20ead5a60444a23d3058a89faf5c", func := "example.com/rollcall/rollcall/zzlaws_internal_company_b1.FnSourcesOfLongestEntryPrefix", spec := "fnSourcesOfLongestEntryPrefix", apart := false }
def FnSourcesOfLongestEntryPrefixSaid : Prop := fnSourcesOfLongestEntryPrefixRow.holds Try.pinned (OpenSpec.ofChange fnSourcesOfLongestEntryPrefixSpec)

/-- ITS FALSE NEIGHBOUR: 'it returns false'. Refute it at one input. -/
def fnSourcesOfLongestEntryPrefixWrong : ChangeSpec := { name := "fnSourcesOfLongestEntryPrefix", fn := fun _ => fun
  | [d1, d2, d3, d4, d5] => { results := [.lit (.bool false)], args := [d1, d2, d3, d4, d5] }
  | _ => none }
def FnSourcesOfLongestEntryPrefixWrongFalsely : Prop := fnSourcesOfLongestEntryPrefixRow.holds Try.pinned (OpenSpec.ofChange fnSourcesOfLongestEntryPrefixWrong)

/-- 'zzlaws_internal_company_b1.FnSourcesOfChildWithoutEntryInherits': WHATEVER THE INPUT: true; the input reads as it did. -/
def fnSourcesOfChildWithoutEntryInheritsSpec : ChangeSpec := { name := "fnSourcesOfChildWithoutEntryInherits", fn := fun _ => fun
  | [d1, d2, d3, d4, d5, d6] => { results := [.lit (.bool true)], args := [d1, d2, d3, d4, d5, d6] }
  | _ => none }
def fnSourcesOfChildWithoutEntryInheritsRow : OpenClaim := { program := "qxb6601102a", sum := "22e50fe227caab56e009a0c447616cdba64b20ead5a60444a23d3058a89faf5c", func := "example.com/rollcall/rollcall/zzlaws_internal_company_b1.FnSourcesOfChildWithoutEntryInherits", spec := "fnSourcesOfChildWithoutEntryInherits", apart := false }
def FnSourcesOfChildWithoutEntryInheritsSaid : Prop := fnSourcesOfChildWithoutEntryInheritsRow.holds Try.pinned (OpenSpec.ofChange fnSourcesOfChildWithoutEntryInheritsSpec)

/-- ITS FALSE NEIGHBOUR: 'it returns false'. Refute it at one input. -/
def fnSourcesOfChildWithoutEntryInheritsWrong : ChangeSpec := { name := "fnSourcesOfChildWithoutEntryInherits", fn := fun _ => fun
  | [d1, d2, d3, d4, d5, d6] => { results := [.lit (.bool false)], args := [d1, d2, d3, d4, d5, d6] }
  | _ => none }
def FnSourcesOfChildWithoutEntryInheritsWrongFalsely : Prop := fnSourcesOfChildWithoutEntryInheritsRow.holds Try.pinned (OpenSpec.ofChange fnSourcesOfChildWithoutEntryInheritsWrong)

end Rows
end Go.Proofs.Qxb6601102a
