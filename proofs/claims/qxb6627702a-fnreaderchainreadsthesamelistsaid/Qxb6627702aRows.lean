/-
  No cell of these rows narrows 'for every input' (looked for: loops, veiled, ifaces, maps, wideKeys, modest, calm, conditions, laid).
  DERIVED. THE GIVEN ROWS OF THIS SEAT. 1 by the template 'for every input the law returns true; each argument reads behind the call as it read before'; 0 by the template 'total and deterministic' (their statements: Qxb6627702aTotals.lean).
  GIVEN WITH THE SEED: the statements are not yours to turn. If you find one false, say at which input.
  Laid BY PROGRAM, IN A SANDBOX (cutbox-rows.mjs): the forced cells as the released guide's own fill.sh prints them over the translation 048512ecc5aae414… (all of the seat's roots in one cut). By AI agents, Wed Nov 11 2026. No macro, syntax, notation, axiom, sorry.
-/
import Derived.Test.Qxb6627702aChecked
import GoSem.Claim
import GoSem.ClaimJoined
import GoSem.ClaimMapViews
import Derived.JoinedTies
import Derived.KernelRfl
namespace Go.Proofs.Qxb6627702a
/- THE CELL 'sum', in the pinned program and in every row, IS THE sha256 OF THE DUMP (.gsa) THAT Qxb6627702aProg.lean LOADS. Nothing in Lean hashes anything: it is a label: what it is worth is what the hold of that sum in a sandbox is worth. -/
noncomputable def Try.pinned : Pinned := { name := "qxb6627702a", sum := "048512ecc5aae414f610854497adf53fdecb3a9154eed0e4020a6b28483499a4", checked := Try.checked }
namespace Rows
def none {H : Type} : Left H := { results := [], args := [] }

/-- 'zzlaws_internal_btree_b1.FnReaderChainReadsTheSameList': WHATEVER THE INPUT: true; the input reads as it did. -/
def fnReaderChainReadsTheSameListSpec : ChangeSpec := { name := "fnReaderChainReadsTheSameList", fn := fun _ => fun
  | [d1, d2, d3, d4, d5, d6, d7] => { results := [.lit (.bool true)], args := [d1, d2, d3, d4, d5, d6, d7] }
  | _ => none }
def fnReaderChainReadsTheSameListRow : OpenClaim := { program := "qxb6627702a", sum := "048512ecc5aae414f610854497adf53fdecb3a9154eed0e4020a6b28483499a4", func := "example.com/fencerow/fencerow/zzlaws_internal_btree_b1.FnReaderChainReadsTheSameList", spec := "fnReaderChainReadsTheSameList", apart := false }
def FnReaderChainReadsTheSameListSaid : Prop := fnReaderChainReadsTheSameListRow.holds Try.pinned (OpenSpec.ofChange fnReaderChainReadsTheSameListSpec)

/-- ITS FALSE NEIGHBOUR: 'it returns false'. Refute it at one input. -/
def fnReaderChainReadsTheSameListWrong : ChangeSpec := { name := "fnReaderChainReadsTheSameList", fn := fun _ => fun
  | [d1, d2, d3, d4, d5, d6, d7] => { results := [.lit (.bool false)], args := [d1, d2, d3, d4, d5, d6, d7] }
  | _ => none }
def FnReaderChainReadsTheSameListWrongFalsely : Prop := fnReaderChainReadsTheSameListRow.holds Try.pinned (OpenSpec.ofChange fnReaderChainReadsTheSameListWrong)

end Rows
end Go.Proofs.Qxb6627702a
