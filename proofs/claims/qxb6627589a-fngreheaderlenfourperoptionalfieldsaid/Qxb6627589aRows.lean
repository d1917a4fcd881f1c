/-
  No cell of these rows narrows 'for every input' (looked for: loops, veiled, ifaces, maps, wideKeys, modest, calm, conditions, laid).
  DERIVED. THE GIVEN ROWS OF THIS SEAT. 2 by the template 'for every input the law returns true; each argument reads behind the call as it read before'; 0 by the template 'total and deterministic' (their statements: Qxb6627589aTotals.lean).
  GIVEN WITH THE SEED: the statements are not yours to turn. If you find one false, say at which input.
  Laid BY PROGRAM, IN A SANDBOX (cutbox-rows.mjs): the forced cells as the released guide's own fill.sh prints them over the translation 6feea0d4cf643d59… (all of the seat's roots in one cut). By AI agents, Wed Nov 11 2026. No macro, syntax, notation, axiom, sorry.
-/
import Derived.Test.Qxb6627589aChecked
import GoSem.Claim
import GoSem.ClaimJoined
import GoSem.ClaimMapViews
import Derived.JoinedTies
import Derived.KernelRfl
namespace Go.Proofs.Qxb6627589a
/- THE CELL 'sum', in the pinned program and in every row, IS THE sha256 OF THE DUMP (.gsa) THAT Qxb6627589aProg.lean LOADS. Nothing in Lean hashes anything: it is a label: what it is worth is what the hold of that sum in a sandbox is worth. -/
noncomputable def Try.pinned : Pinned := { name := "qxb6627589a", sum := "6feea0d4cf643d595e2ce9e3dfd8a9652a73553bd58bcc13164e869130557276", checked := Try.checked }
namespace Rows
def none {H : Type} : Left H := { results := [], args := [] }

/-- 'zzlaws_root_b1.FnGREHeaderLenFourPerOptionalField': WHATEVER THE INPUT: true; the input reads as it did. -/
def fnGREHeaderLenFourPerOptionalFieldSpec : ChangeSpec := { name := "fnGREHeaderLenFourPerOptionalField", fn := fun _ => fun
  | [d1, d2, d3, d4, d5, d6, d7, d8] => { results := [.lit (.bool true)], args := [d1, d2, d3, d4, d5, d6, d7, d8] }
  | _ => none }
def fnGREHeaderLenFourPerOptionalFieldRow : OpenClaim := { program := "qxb6627589a", sum := "6feea0d4cf643d595e2ce9e3dfd8a9652a73553bd58bcc13164e869130557276", func := "example.com/encapsule/encapsule/zzlaws_root_b1.FnGREHeaderLenFourPerOptionalField", spec := "fnGREHeaderLenFourPerOptionalField", apart := false }
def FnGREHeaderLenFourPerOptionalFieldSaid : Prop := fnGREHeaderLenFourPerOptionalFieldRow.holds Try.pinned (OpenSpec.ofChange fnGREHeaderLenFourPerOptionalFieldSpec)

/-- ITS FALSE NEIGHBOUR: 'it returns false'. Refute it at one input. -/
def fnGREHeaderLenFourPerOptionalFieldWrong : ChangeSpec := { name := "fnGREHeaderLenFourPerOptionalField", fn := fun _ => fun
  | [d1, d2, d3, d4, d5, d6, d7, d8] => { results := [.lit (.bool false)], args := [d1, d2, d3, d4, d5, d6, d7, d8] }
  | _ => none }
def FnGREHeaderLenFourPerOptionalFieldWrongFalsely : Prop := fnGREHeaderLenFourPerOptionalFieldRow.holds Try.pinned (OpenSpec.ofChange fnGREHeaderLenFourPerOptionalFieldWrong)

/-- 'zzlaws_root_b1.FnGREHeaderLenComplementSumsToTwenty': WHATEVER THE INPUT: true; the input reads as it did. -/
def fnGREHeaderLenComplementSumsToTwentySpec : ChangeSpec := { name := "fnGREHeaderLenComplementSumsToTwenty", fn := fun _ => fun
  | [d1, d2, d3, d4, d5, d6, d7, d8] => { results := [.lit (.bool true)], args := [d1, d2, d3, d4, d5, d6, d7, d8] }
  | _ => none }
def fnGREHeaderLenComplementSumsToTwentyRow : OpenClaim := { program := "qxb6627589a", sum := "6feea0d4cf643d595e2ce9e3dfd8a9652a73553bd58bcc13164e869130557276", func := "example.com/encapsule/encapsule/zzlaws_root_b1.FnGREHeaderLenComplementSumsToTwenty", spec := "fnGREHeaderLenComplementSumsToTwenty", apart := false }
def FnGREHeaderLenComplementSumsToTwentySaid : Prop := fnGREHeaderLenComplementSumsToTwentyRow.holds Try.pinned (OpenSpec.ofChange fnGREHeaderLenComplementSumsToTwentySpec)

/-- ITS FALSE NEIGHBOUR: 'it returns false'. Refute it at one input. -/
def fnGREHeaderLenComplementSumsToTwentyWrong : ChangeSpec := { name := "fnGREHeaderLenComplementSumsToTwenty", fn := fun _ => fun
  | [d1, d2, d3, d4, d5, d6, d7, d8] => { results := [.lit (.bool false)], args := [d1, d2, d3, d4, d5, d6, d7, d8] }
  | _ => none }
def FnGREHeaderLenComplementSumsToTwentyWrongFalsely : Prop := fnGREHeaderLenComplementSumsToTwentyRow.holds Try.pinned (OpenSpec.ofChange fnGREHeaderLenComplementSumsToTwentyWrong)

end Rows
end Go.Proofs.Qxb6627589a
