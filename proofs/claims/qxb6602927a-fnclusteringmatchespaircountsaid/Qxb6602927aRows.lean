/-
  No cell of these rows narrows 'for every input' (looked for: loops, veiled, ifaces, maps, wideKeys, modest, calm, conditions, laid).
  DERIVED. THE GIVEN ROWS OF THIS SEAT. 2 by the template 'for every input the law returns true; each argument reads behind the call as it read before'; 0 by the template 'total and deterministic' (their statements: Qxb6602927aTotals.lean).
  GIVEN WITH THE SEED: the statements are not yours to turn. If you find one false, say at which input.
  Laid BY PROGRAM, IN A SANDBOX (cutbox-rows.mjs): the forced cells as the released guide's own fill.sh prints them over the translation 48ebb432a1313fdf… (all of the seat's roots in one cut). By AI agents, Wed Nov 11 2026. No macro, syntax, notation, axiom, sorry.
-/
import Derived.Test.Qxb6602927aChecked
import GoSem.Claim
import GoSem.ClaimJoined
import GoSem.ClaimMapViews
import Derived.JoinedTies
import Derived.KernelRfl
namespace Go.Proofs.Qxb6602927a
/- THE CELL 'sum', in the pinned program and in every row, IS THE sha256 OF THE DUMP (.gsa) THAT Qxb6602927aProg.lean LOADS. Nothing in Lean hashes anything: it is a label: what it is worth is what the hold of that sum in a sandbox is worth. -/
noncomputable def Try.pinned : Pinned := { name := "qxb6602927a", sum := "48ebb432a1313fdfc29e319bf1c26404e24fa3cc710f467f792c2b80385167b0", checked := Try.checked }
namespace Rows
def none {H : Type} : Left H := { results := [], args := [] }

/-- 'zzlaws_metrics_b1.FnClusteringMatchesPairCount': WHATEVER THE INPUT: true; the input reads as it did. -/
def fnClusteringMatchesPairCountSpec : ChangeSpec := { name := "fnClusteringMatchesPairCount", fn := fun _ => fun
  | [d] => { results := [.lit (.bool true)], args := [d] }
  | _ => none }
def fnClusteringMatchesPairCountRow : OpenClaim := { program := "qxb6602927a", sum := "48ebb432a1313fdfc29e319bf1c26404e24fa3cc710f467f792c2b80385167b0", func := "example.com/bramblecast/bramblecast/zzlaws_metrics_b1.FnClusteringMatchesPairCount", spec := "fnClusteringMatchesPairCount", apart := false }
def FnClusteringMatchesPairCountSaid : Prop := fnClusteringMatchesPairCountRow.holds Try.pinned (OpenSpec.ofChange fnClusteringMatchesPairCountSpec)

/-- ITS FALSE NEIGHBOUR: 'it returns false'. Refute it at one input. -/
def fnClusteringMatchesPairCountWrong : ChangeSpec := { name := "fnClusteringMatchesPairCount", fn := fun _ => fun
  | [d] => { results := [.lit (.bool false)], args := [d] }
  | _ => none }
def FnClusteringMatchesPairCountWrongFalsely : Prop := fnClusteringMatchesPairCountRow.holds Try.pinned (OpenSpec.ofChange fnClusteringMatchesPairCountWrong)

/-- 'zzlaws_metrics_b1.FnClusteringWithinUnitInterval': WHATEVER THE INPUT: true; the input reads as it did. -/
def fnClusteringWithinUnitIntervalSpec : ChangeSpec := { name := "fnClusteringWithinUnitInterval", fn := fun _ => fun
  | [d] => { results := [.lit (.bool true)], args := [d] }
  | _ => none }
def fnClusteringWithinUnitIntervalRow : OpenClaim := { program := "qxb6602927a", sum := "48ebb432a1313fdfc29e319bf1c26404e24fa3cc710f467f792c2b80385167b0", func := "example.com/bramblecast/bramblecast/zzlaws_metrics_b1.FnClusteringWithinUnitInterval", spec := "fnClusteringWithinUnitInterval", apart := false }
def FnClusteringWithinUnitIntervalSaid : Prop := fnClusteringWithinUnitIntervalRow.holds Try.pinned (OpenSpec.ofChange fnClusteringWithinUnitIntervalSpec)

/-- ITS FALSE NEIGHBOUR: 'it returns false'. Refute it at one input. -/
def fnClusteringWithinUnitIntervalWrong : ChangeSpec := { name := "fnClusteringWithinUnitInterval", fn := fun _ => fun
  | [d] => { results := [.lit (.bool false)], args := [d] }
  | _ => none }
def FnClusteringWithinUnitIntervalWrongFalsely : Prop := fnClusteringWithinUnitIntervalRow.holds Try.pinned (OpenSpec.ofChange fnClusteringWithinUnitIntervalWrong)

end Rows
end Go.Proofs.Qxb6602927a
