/-
  No cell of these rows narrows 'for every input' (looked for: loops, veiled, ifaces, maps, wideKeys, modest, calm, conditions, laid).
  DERIVED. THE GIVEN ROWS OF THIS SEAT. 2 by the template 'for every input the law returns true; each argument reads behind the call as it read before'; 0 by the template 'total and deterministic' (their statements: Qxb6627673aTotals.lean).
  GIVEN WITH THE SEED: the statements are not yours to turn. If you find one false, say at which input.
  Laid BY PROGRAM, IN A SANDBOX (cutbox-rows.mjs): the forced cells as the released guide's own fill.sh prints them over the translation 5a117cb8bf4d1a00… (all of the seat's roots in one cut). By AI agents, Wed Nov 11 2026. No macro, syntax, notation, axiom, sorry.
-/
import Derived.Test.Qxb6627673aChecked
import GoSem.Claim
import GoSem.ClaimJoined
import GoSem.ClaimMapViews
import Derived.JoinedTies
import Derived.KernelRfl
namespace Go.Proofs.Qxb6627673a
/- THE CELL 'sum', in the pinned program and in every row, IS THE sha256 OF THE DUMP (.gsa) THAT Qxb6627673aProg.lean LOADS. Nothing in Lean hashes anything: it is a label: what it is worth is what the hold of that sum in a sandbox is worth. -/
noncomputable def Try.pinned : Pinned := { name := "qxb6627673a", sum := "5a117cb8bf4d1a000672cd1e3f54573c037d8fa0dbc7b197fa6fc9533bd68515", checked := Try.checked }
namespace Rows
def none {H : Type} : Left H := { results := [], args := [] }

/-- 'zzlaws_internal_schema_b1.FnUnionOfSortedSetsIsSortedSetUnion': WHATEVER THE INPUT: true; the input reads as it did. -/
def fnUnionOfSortedSetsIsSortedSetUnionSpec : ChangeSpec := { name := "fnUnionOfSortedSetsIsSortedSetUnion", fn := fun _ => fun
  | [d1, d2] => { results := [.lit (.bool true)], args := [d1, d2] }
  | _ => none }
def fnUnionOfSortedSetsIsSortedSetUnionRow : OpenClaim := { program := "qxb6627673a", sum := "5a117cb8bf4d1a000672cd1e3f54573c037d8fa0dbc7b197fa6fc9533bd68515", func := "example.com/riiv/riiv/zzlaws_internal_schema_b1.FnUnionOfSortedSetsIsSortedSetUnion", spec := "fnUnionOfSortedSetsIsSortedSetUnion", apart := false }
def FnUnionOfSortedSetsIsSortedSetUnionSaid : Prop := fnUnionOfSortedSetsIsSortedSetUnionRow.holds Try.pinned (OpenSpec.ofChange fnUnionOfSortedSetsIsSortedSetUnionSpec)

/-- ITS FALSE NEIGHBOUR: 'it returns false'. Refute it at one input. -/
def fnUnionOfSortedSetsIsSortedSetUnionWrong : ChangeSpec := { name := "fnUnionOfSortedSetsIsSortedSetUnion", fn := fun _ => fun
  | [d1, d2] => { results := [.lit (.bool false)], args := [d1, d2] }
  | _ => none }
def FnUnionOfSortedSetsIsSortedSetUnionWrongFalsely : Prop := fnUnionOfSortedSetsIsSortedSetUnionRow.holds Try.pinned (OpenSpec.ofChange fnUnionOfSortedSetsIsSortedSetUnionWrong)

/-- 'zzlaws_internal_schema_b1.FnUnionKeepsBothInputsInOrder': WHATEVER THE INPUT: true; the input reads as it did. -/
def fnUnionKeepsBothInputsInOrderSpec : ChangeSpec := { name := "fnUnionKeepsBothInputsInOrder", fn := fun _ => fun
  | [d1, d2] => { results := [.lit (.bool true)], args := [d1, d2] }
  | _ => none }
def fnUnionKeepsBothInputsInOrderRow : OpenClaim := { program := "qxb6627673a", sum := "5a117cb8bf4d1a000672cd1e3f54573c037d8fa0dbc7b197fa6fc9533bd68515", func := "example.com/riiv/riiv/zzlaws_internal_schema_b1.FnUnionKeepsBothInputsInOrder", spec := "fnUnionKeepsBothInputsInOrder", apart := false }
def FnUnionKeepsBothInputsInOrderSaid : Prop := fnUnionKeepsBothInputsInOrderRow.holds Try.pinned (OpenSpec.ofChange fnUnionKeepsBothInputsInOrderSpec)

/-- ITS FALSE NEIGHBOUR: 'it returns false'. Refute it at one input. -/
def fnUnionKeepsBothInputsInOrderWrong : ChangeSpec := { name := "fnUnionKeepsBothInputsInOrder", fn := fun _ => fun
  | [d1, d2] => { results := [.lit (.bool false)], args := [d1, d2] }
  | _ => none }
def FnUnionKeepsBothInputsInOrderWrongFalsely : Prop := fnUnionKeepsBothInputsInOrderRow.holds Try.pinned (OpenSpec.ofChange fnUnionKeepsBothInputsInOrderWrong)

end Rows
end Go.Proofs.Qxb6627673a
