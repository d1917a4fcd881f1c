/-
  No cell of these rows narrows 'for every input' (looked for: loops, veiled, ifaces, maps, wideKeys, modest, calm, conditions, laid).
  DERIVED. THE GIVEN ROWS OF THIS SEAT. 2 by the template 'for every input the law returns true; each argument reads behind the call as it read before'; 0 by the template 'total and deterministic' (their statements: Qxb6627637aTotals.lean).
  GIVEN WITH THE SEED: the statements are not yours to turn. If you find one false, say at which input.
  Laid BY PROGRAM, IN A SANDBOX (cutbox-rows.mjs): the forced cells as the released guide's own fill.sh prints them over the translation 355442c70430229b… (all of the seat's roots in one cut). By AI agents, Wed Nov 11 2026. No macro, syntax, notation, axiom, sorry.
-/
import Derived.Test.Qxb6627637aChecked
import GoSem.Claim
import GoSem.ClaimJoined
import GoSem.ClaimMapViews
import Derived.JoinedTies
import Derived.KernelRfl
namespace Go.Proofs.Qxb6627637a
/- THE CELL 'sum', in the pinned program and in every row, IS THE sha256 OF THE DUMP (.gsa) THAT Qxb6627637aProg.lean LOADS. Nothing in Lean hashes anything: it is a label: what it is worth is what the hold of that sum in a sandbox is worth. -/
noncomputable def Try.pinned : Pinned := { name := "qxb6627637a", sum := "355442c70430229bf5cada807cb7e2397e10ee4a355116808dd74d84507185f2", checked := Try.checked }
namespace Rows
def none {H : Type} : Left H := { results := [], args := [] }

/-- 'zzlaws_internal_cvss_b1.FnSeverityRankCountsThresholdsBetweenScores': WHATEVER THE INPUT: true; the input reads as it did. -/
def fnSeverityRankCountsThresholdsBetweenScoresSpec : ChangeSpec := { name := "fnSeverityRankCountsThresholdsBetweenScores", fn := fun _ => fun
  | [d1, d2] => { results := [.lit (.bool true)], args := [d1, d2] }
  | _ => none }
def fnSeverityRankCountsThresholdsBetweenScoresRow : OpenClaim := { program := "qxb6627637a", sum := "355442c70430229bf5cada807cb7e2397e10ee4a355116808dd74d84507185f2", func := "example.com/vexillum/vexillum/zzlaws_internal_cvss_b1.FnSeverityRankCountsThresholdsBetweenScores", spec := "fnSeverityRankCountsThresholdsBetweenScores", apart := false }
def FnSeverityRankCountsThresholdsBetweenScoresSaid : Prop := fnSeverityRankCountsThresholdsBetweenScoresRow.holds Try.pinned (OpenSpec.ofChange fnSeverityRankCountsThresholdsBetweenScoresSpec)

/-- ITS FALSE NEIGHBOUR: 'it returns false'. Refute it at one input. -/
def fnSeverityRankCountsThresholdsBetweenScoresWrong : ChangeSpec := { name := "fnSeverityRankCountsThresholdsBetweenScores", fn := fun _ => fun
  | [d1, d2] => { results := [.lit (.bool false)], args := [d1, d2] }
  | _ => none }
def FnSeverityRankCountsThresholdsBetweenScoresWrongFalsely : Prop := fnSeverityRankCountsThresholdsBetweenScoresRow.holds Try.pinned (OpenSpec.ofChange fnSeverityRankCountsThresholdsBetweenScoresWrong)

/-- 'zzlaws_internal_cvss_b1.FnSeverityIsSameThroughoutEachWholePoint': WHATEVER THE INPUT: true; the input reads as it did. -/
def fnSeverityIsSameThroughoutEachWholePointSpec : ChangeSpec := { name := "fnSeverityIsSameThroughoutEachWholePoint", fn := fun _ => fun
  | [d] => { results := [.lit (.bool true)], args := [d] }
  | _ => none }
def fnSeverityIsSameThroughoutEachWholePointRow : OpenClaim := { program := "qxb6627637a", sum := "355442c70430229bf5cada807cb7e2397e10ee4a355116808dd74d84507185f2", func := "example.com/vexillum/vexillum/zzlaws_internal_cvss_b1.FnSeverityIsSameThroughoutEachWholePoint", spec := "fnSeverityIsSameThroughoutEachWholePoint", apart := false }
def FnSeverityIsSameThroughoutEachWholePointSaid : Prop := fnSeverityIsSameThroughoutEachWholePointRow.holds Try.pinned (OpenSpec.ofChange fnSeverityIsSameThroughoutEachWholePointSpec)

/-- ITS FALSE NEIGHBOUR: 'it returns false'. Refute it at one input. -/
def fnSeverityIsSameThroughoutEachWholePointWrong : ChangeSpec := { name := "fnSeverityIsSameThroughoutEachWholePoint", fn := fun _ => fun
  | [d] => { results := [.lit (.bool false)], args := [d] }
  | _ => none }
def FnSeverityIsSameThroughoutEachWholePointWrongFalsely : Prop := fnSeverityIsSameThroughoutEachWholePointRow.holds Try.pinned (OpenSpec.ofChange fnSeverityIsSameThroughoutEachWholePointWrong)

end Rows
end Go.Proofs.Qxb6627637a
