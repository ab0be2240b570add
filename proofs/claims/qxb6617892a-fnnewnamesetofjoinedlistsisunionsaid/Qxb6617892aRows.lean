/-
  No cell of these rows narrows 'for every input' (looked for: loops, veiled, ifaces, maps, wideKeys, modest, calm, conditions, laid).
  DERIVED. THE GIVEN ROWS OF THIS SEAT. 3 by the template 'for every input the law returns true; each argument reads behind the call as it read before'; 0 by the template 'total and deterministic' (their statements: Qxb6617892aTotals.lean).
  GIVEN WITH THE SEED: the statements are not yours to turn. If you find one false, say at which input.
  Laid BY PROGRAM, IN A SANDBOX (cutbox-rows.mjs): the forced cells as the released guide's own fill.sh prints them over the translation c3b6b1a736f39091… (all of the seat's roots in one cut). By AI agents, Wed Nov 11 2026. No macro, syntax, notation, axiom, sorry.
-/
import Derived.Test.Qxb6617892aChecked
import GoSem.Claim
import GoSem.ClaimJoined
import GoSem.ClaimMapViews
import Derived.JoinedTies
import Derived.KernelRfl
namespace Go.Proofs.Qxb6617892a
/- THE CELL 'sum', in the pinned program and in every row, IS THE sha256 OF THE DUMP (.gsa) THAT Qxb6617892aProg.lean LOADS. Nothing in Lean hashes anything: it is a label: what it is worth is what the hold of that sum in a sandbox is worth. -/
noncomputable def Try.pinned : Pinned := { name := "qxb6617892a", sum := "c3b6b1a736f3909189529b64d052cf67342c3a1aeaa3864670575bfebd56b95f", checked := Try.checked }
namespace Rows
def none {H : Type} : Left H := { results := [], args := [] }

/-- 'zzlaws_root_b1.FnValidNameMatchesShapeModel': WHATEVER THE INPUT: true; the input reads as it did. -/
def fnValidNameMatchesShapeModelSpec : ChangeSpec := { name := "fnValidNameMatchesShapeModel", fn := fun _ => fun
  | [d] => { results := [.lit (.bool true)], args := [d] }
  | _ => none }
def fnValidNameMatchesShapeModelRow : OpenClaim := { program := "qxb6617892a", sum := "c3b6b1a736f3909189529b64d052cf67342c3a1aeaa3864670575bfebd56b95f", func := "example.com/tidemark/tidemark/zzlaws_root_b1.FnValidNameMatchesShapeModel", spec := "fnValidNameMatchesShapeModel", apart := false }
def FnValidNameMatchesShapeModelSaid : Prop := fnValidNameMatchesShapeModelRow.holds Try.pinned (OpenSpec.ofChange fnValidNameMatchesShapeModelSpec)

/-- ITS FALSE NEIGHBOUR: 'it returns false'. Refute it at one input. -/
def fnValidNameMatchesShapeModelWrong : ChangeSpec := { name := "fnValidNameMatchesShapeModel", fn := fun _ => fun
  | [d] => { results := [.lit (.bool false)], args := [d] }
  | _ => none }
def FnValidNameMatchesShapeModelWrongFalsely : Prop := fnValidNameMatchesShapeModelRow.holds Try.pinned (OpenSpec.ofChange fnValidNameMatchesShapeModelWrong)

/-- 'zzlaws_root_b1.FnValidNameJoinAtDot': WHATEVER THE INPUT: true; the input reads as it did. -/
def fnValidNameJoinAtDotSpec : ChangeSpec := { name := "fnValidNameJoinAtDot", fn := fun _ => fun
  | [d1, d2] => { results := [.lit (.bool true)], args := [d1, d2] }
  | _ => none }
def fnValidNameJoinAtDotRow : OpenClaim := { program := "qxb6617892a", sum := "c3b6b1a736f3909189529b64d052cf67342c3a1aeaa3864670575bfebd56b95f", func := "example.com/tidemark/tidemark/zzlaws_root_b1.FnValidNameJoinAtDot", spec := "fnValidNameJoinAtDot", apart := false }
def FnValidNameJoinAtDotSaid : Prop := fnValidNameJoinAtDotRow.holds Try.pinned (OpenSpec.ofChange fnValidNameJoinAtDotSpec)

/-- ITS FALSE NEIGHBOUR: 'it returns false'. Refute it at one input. -/
def fnValidNameJoinAtDotWrong : ChangeSpec := { name := "fnValidNameJoinAtDot", fn := fun _ => fun
  | [d1, d2] => { results := [.lit (.bool false)], args := [d1, d2] }
  | _ => none }
def FnValidNameJoinAtDotWrongFalsely : Prop := fnValidNameJoinAtDotRow.holds Try.pinned (OpenSpec.ofChange fnValidNameJoinAtDotWrong)

/-- 'zzlaws_root_b1.FnNewNameSetOfJoinedListsIsUnion': WHATEVER THE INPUT: true; the input reads as it did. -/
def fnNewNameSetOfJoinedListsIsUnionSpec : ChangeSpec := { name := "fnNewNameSetOfJoinedListsIsUnion", fn := fun _ => fun
  | [d1, d2] => { results := [.lit (.bool true)], args := [d1, d2] }
  | _ => none }
def fnNewNameSetOfJoinedListsIsUnionRow : OpenClaim := { program := "qxb6617892a", sum := "c3b6b1a736f3909189529b64d052cf67342c3a1aeaa3864670575bfebd56b95f", func := "example.com/tidemark/tidemark/zzlaws_root_b1.FnNewNameSetOfJoinedListsIsUnion", spec := "fnNewNameSetOfJoinedListsIsUnion", apart := false }
def FnNewNameSetOfJoinedListsIsUnionSaid : Prop := fnNewNameSetOfJoinedListsIsUnionRow.holds Try.pinned (OpenSpec.ofChange fnNewNameSetOfJoinedListsIsUnionSpec)

/-- ITS FALSE NEIGHBOUR: 'it returns false'. Refute it at one input. -/
def fnNewNameSetOfJoinedListsIsUnionWrong : ChangeSpec := { name := "fnNewNameSetOfJoinedListsIsUnion", fn := fun _ => fun
  | [d1, d2] => { results := [.lit (.bool false)], args := [d1, d2] }
  | _ => none }
def FnNewNameSetOfJoinedListsIsUnionWrongFalsely : Prop := fnNewNameSetOfJoinedListsIsUnionRow.holds Try.pinned (OpenSpec.ofChange fnNewNameSetOfJoinedListsIsUnionWrong)

end Rows
end Go.Proofs.Qxb6617892a
