/-
  No cell of these rows narrows 'for every input' (looked for: loops, veiled, ifaces, maps, wideKeys, modest, calm, conditions, laid).
  DERIVED. THE GIVEN ROWS OF THIS SEAT. 2 by the template 'for every input the law returns true; each argument reads behind the call as it read before'; 0 by the template 'total and deterministic' (their statements: Qxb6613954aTotals.lean).
  GIVEN WITH THE SEED: the statements are not yours to turn. If you find one false, say at which input.
  Laid BY PROGRAM, IN A SANDBOX (cutbox-rows.mjs): the forced cells as the released guide's own fill.sh prints them over the translation 4e9f37b19060545f… (all of the seat's roots in one cut). By AI agents, Wed Nov 11 2026. No macro, syntax, notation, axiom, sorry.
-/
import Derived.Test.Qxb6613954aChecked
import GoSem.Claim
import GoSem.ClaimJoined
import GoSem.ClaimMapViews
import Derived.JoinedTies
import Derived.KernelRfl
namespace Go.Proofs.Qxb6613954a
/- THE CELL 'sum', in the pinned program and in every row, IS THE sha256 OF THE DUMP (.gsa) THAT Qxb6613954aProg.lean LOADS. Nothing in Lean hashes anything: it is a label: what it is worth is what the hold of that sum in a sandbox is worth. -/
noncomputable def Try.pinned : Pinned := { name := "qxb6613954a", sum := "4e9f37b19060545f03ce872616706d39698b67730be089a2ea96a1bd2911fc67", checked := Try.checked }
namespace Rows
def none {H : Type} : Left H := { results := [], args := [] }

/-- 'zzlaws_internal_index_b1.FnRunNodeIsTheLeafsPrefixAndComposes': WHATEVER THE INPUT: true; the input reads as it did. -/
def fnRunNodeIsTheLeafsPrefixAndComposesSpec : ChangeSpec := { name := "fnRunNodeIsTheLeafsPrefixAndComposes", fn := fun _ => fun
  | [d1, d2, d3, d4] => { results := [.lit (.bool true)], args := [d1, d2, d3, d4] }
  | _ => none }
def fnRunNodeIsTheLeafsPrefixAndComposesRow : OpenClaim := { program := "qxb6613954a", sum := "4e9f37b19060545f03ce872616706d39698b67730be089a2ea96a1bd2911fc67", func := "example.com/orderweave/orderweave/zzlaws_internal_index_b1.FnRunNodeIsTheLeafsPrefixAndComposes", spec := "fnRunNodeIsTheLeafsPrefixAndComposes", apart := false }
def FnRunNodeIsTheLeafsPrefixAndComposesSaid : Prop := fnRunNodeIsTheLeafsPrefixAndComposesRow.holds Try.pinned (OpenSpec.ofChange fnRunNodeIsTheLeafsPrefixAndComposesSpec)

/-- ITS FALSE NEIGHBOUR: 'it returns false'. Refute it at one input. -/
def fnRunNodeIsTheLeafsPrefixAndComposesWrong : ChangeSpec := { name := "fnRunNodeIsTheLeafsPrefixAndComposes", fn := fun _ => fun
  | [d1, d2, d3, d4] => { results := [.lit (.bool false)], args := [d1, d2, d3, d4] }
  | _ => none }
def FnRunNodeIsTheLeafsPrefixAndComposesWrongFalsely : Prop := fnRunNodeIsTheLeafsPrefixAndComposesRow.holds Try.pinned (OpenSpec.ofChange fnRunNodeIsTheLeafsPrefixAndComposesWrong)

/-- 'zzlaws_internal_index_b1.FnRunNodeClimbsParentByParentToTheRoot': WHATEVER THE INPUT: true; the input reads as it did. -/
def fnRunNodeClimbsParentByParentToTheRootSpec : ChangeSpec := { name := "fnRunNodeClimbsParentByParentToTheRoot", fn := fun _ => fun
  | [d1, d2] => { results := [.lit (.bool true)], args := [d1, d2] }
  | _ => none }
def fnRunNodeClimbsParentByParentToTheRootRow : OpenClaim := { program := "qxb6613954a", sum := "4e9f37b19060545f03ce872616706d39698b67730be089a2ea96a1bd2911fc67", func := "example.com/orderweave/orderweave/zzlaws_internal_index_b1.FnRunNodeClimbsParentByParentToTheRoot", spec := "fnRunNodeClimbsParentByParentToTheRoot", apart := false }
def FnRunNodeClimbsParentByParentToTheRootSaid : Prop := fnRunNodeClimbsParentByParentToTheRootRow.holds Try.pinned (OpenSpec.ofChange fnRunNodeClimbsParentByParentToTheRootSpec)

/-- ITS FALSE NEIGHBOUR: 'it returns false'. Refute it at one input. -/
def fnRunNodeClimbsParentByParentToTheRootWrong : ChangeSpec := { name := "fnRunNodeClimbsParentByParentToTheRoot", fn := fun _ => fun
  | [d1, d2] => { results := [.lit (.bool false)], args := [d1, d2] }
  | _ => none }
def FnRunNodeClimbsParentByParentToTheRootWrongFalsely : Prop := fnRunNodeClimbsParentByParentToTheRootRow.holds Try.pinned (OpenSpec.ofChange fnRunNodeClimbsParentByParentToTheRootWrong)

end Rows
end Go.Proofs.Qxb6613954a
