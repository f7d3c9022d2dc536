/-
  No cell of these rows narrows 'for every input' (looked for: loops, veiled, ifaces, maps, wideKeys, modest, calm, conditions, laid).
  DERIVED. THE GIVEN ROWS OF THIS SEAT. 6 by the template 'for every input the law returns true; each argument reads behind the call as it read before'; 0 by the template 'total and deterministic' (their statements: Qxb6000875aTotals.lean).
  GIVEN WITH THE SEED: the statements are not yours to turn. If you find one false, say at which input.
  Laid BY PROGRAM, IN A SANDBOX (cutbox-rows.mjs): the forced cells as the released guide's own fill.sh prints them over the translation 35b570b7cc6ba3bd… (all of the seat's roots in one cut). By AI agents, Wed Nov 11 2026. No macro, syntax, notation, axiom, sorry.
-/
import Derived.Test.Qxb6000875aChecked
import GoSem.Claim
import GoSem.ClaimJoined
import GoSem.ClaimMapViews
import Derived.JoinedTies
import Derived.KernelRfl
namespace Go.Proofs.Qxb6000875a
/- THE CELL 'sum', in the pinned program and in every row, IS THE sha256 OF THE DUMP (.gsa) THAT Qxb6000875aProg.lean LOADS. Nothing in Lean hashes anything: it is a label: what it is worth is what the hold of that sum in a sandbox is worth. -/
noncomputable def Try.pinned : Pinned := { name := "qxb6000875a", sum := "35b570b7cc6ba3bd4363f880a9dbd3a93cf9b2d7ac83f6357fd9f53884b7ed96", checked := Try.checked }
namespace Rows
def none {H : Type} : Left H := { results := [], args := [] }

/-- 'zzlaws_pkg_declaration_b1.FnScopeGrantRaisesToExactlyThatLevel': WHATEVER THE INPUT: true; the input reads as it did. -/
def fnScopeGrantRaisesToExactlyThatLevelSpec : ChangeSpec := { name := "fnScopeGrantRaisesToExactlyThatLevel", fn := fun _ => fun
  | [d1, d2, d3] => { results := [.lit (.bool true)], args := [d1, d2, d3] }
  | _ => none }
def fnScopeGrantRaisesToExactlyThatLevelRow : OpenClaim := { program := "qxb6000875a", sum := "35b570b7cc6ba3bd4363f880a9dbd3a93cf9b2d7ac83f6357fd9f53884b7ed96", func := "example.com/stonekeel/stonekeel/zzlaws_pkg_declaration_b1.FnScopeGrantRaisesToExactlyThatLevel", spec := "fnScopeGrantRaisesToExactlyThatLevel", plainKeys := false, apart := false }
def FnScopeGrantRaisesToExactlyThatLevelSaid : Prop := fnScopeGrantRaisesToExactlyThatLevelRow.holds Try.pinned (OpenSpec.ofChange fnScopeGrantRaisesToExactlyThatLevelSpec)

/-- ITS FALSE NEIGHBOUR: 'it returns false'. Refute it at one input. -/
def fnScopeGrantRaisesToExactlyThatLevelWrong : ChangeSpec := { name := "fnScopeGrantRaisesToExactlyThatLevel", fn := fun _ => fun
  | [d1, d2, d3] => { results := [.lit (.bool false)], args := [d1, d2, d3] }
  | _ => none }
def FnScopeGrantRaisesToExactlyThatLevelWrongFalsely : Prop := fnScopeGrantRaisesToExactlyThatLevelRow.holds Try.pinned (OpenSpec.ofChange fnScopeGrantRaisesToExactlyThatLevelWrong)

/-- 'zzlaws_pkg_declaration_b1.FnScopeOtherRoleGrantLeavesScope': WHATEVER THE INPUT: true; the input reads as it did. -/
def fnScopeOtherRoleGrantLeavesScopeSpec : ChangeSpec := { name := "fnScopeOtherRoleGrantLeavesScope", fn := fun _ => fun
  | [d1, d2, d3, d4] => { results := [.lit (.bool true)], args := [d1, d2, d3, d4] }
  | _ => none }
def fnScopeOtherRoleGrantLeavesScopeRow : OpenClaim := { program := "qxb6000875a", sum := "35b570b7cc6ba3bd4363f880a9dbd3a93cf9b2d7ac83f6357fd9f53884b7ed96", func := "example.com/stonekeel/stonekeel/zzlaws_pkg_declaration_b1.FnScopeOtherRoleGrantLeavesScope", spec := "fnScopeOtherRoleGrantLeavesScope", plainKeys := false, apart := false }
def FnScopeOtherRoleGrantLeavesScopeSaid : Prop := fnScopeOtherRoleGrantLeavesScopeRow.holds Try.pinned (OpenSpec.ofChange fnScopeOtherRoleGrantLeavesScopeSpec)

/-- ITS FALSE NEIGHBOUR: 'it returns false'. Refute it at one input. -/
def fnScopeOtherRoleGrantLeavesScopeWrong : ChangeSpec := { name := "fnScopeOtherRoleGrantLeavesScope", fn := fun _ => fun
  | [d1, d2, d3, d4] => { results := [.lit (.bool false)], args := [d1, d2, d3, d4] }
  | _ => none }
def FnScopeOtherRoleGrantLeavesScopeWrongFalsely : Prop := fnScopeOtherRoleGrantLeavesScopeRow.holds Try.pinned (OpenSpec.ofChange fnScopeOtherRoleGrantLeavesScopeWrong)

/-- 'zzlaws_pkg_declaration_b1.FnScopeOrderFree': WHATEVER THE INPUT: true; the input reads as it did. -/
def fnScopeOrderFreeSpec : ChangeSpec := { name := "fnScopeOrderFree", fn := fun _ => fun
  | [d1, d2, d3] => { results := [.lit (.bool true)], args := [d1, d2, d3] }
  | _ => none }
def fnScopeOrderFreeRow : OpenClaim := { program := "qxb6000875a", sum := "35b570b7cc6ba3bd4363f880a9dbd3a93cf9b2d7ac83f6357fd9f53884b7ed96", func := "example.com/stonekeel/stonekeel/zzlaws_pkg_declaration_b1.FnScopeOrderFree", spec := "fnScopeOrderFree", plainKeys := false, apart := false }
def FnScopeOrderFreeSaid : Prop := fnScopeOrderFreeRow.holds Try.pinned (OpenSpec.ofChange fnScopeOrderFreeSpec)

/-- ITS FALSE NEIGHBOUR: 'it returns false'. Refute it at one input. -/
def fnScopeOrderFreeWrong : ChangeSpec := { name := "fnScopeOrderFree", fn := fun _ => fun
  | [d1, d2, d3] => { results := [.lit (.bool false)], args := [d1, d2, d3] }
  | _ => none }
def FnScopeOrderFreeWrongFalsely : Prop := fnScopeOrderFreeRow.holds Try.pinned (OpenSpec.ofChange fnScopeOrderFreeWrong)

/-- 'zzlaws_pkg_declaration_b1.FnLinksAreExactlyTheLinkFieldsInOrder': WHATEVER THE INPUT: true; the input reads as it did. -/
def fnLinksAreExactlyTheLinkFieldsInOrderSpec : ChangeSpec := { name := "fnLinksAreExactlyTheLinkFieldsInOrder", fn := fun _ => fun
  | [d] => { results := [.lit (.bool true)], args := [d] }
  | _ => none }
def fnLinksAreExactlyTheLinkFieldsInOrderRow : OpenClaim := { program := "qxb6000875a", sum := "35b570b7cc6ba3bd4363f880a9dbd3a93cf9b2d7ac83f6357fd9f53884b7ed96", func := "example.com/stonekeel/stonekeel/zzlaws_pkg_declaration_b1.FnLinksAreExactlyTheLinkFieldsInOrder", spec := "fnLinksAreExactlyTheLinkFieldsInOrder", plainKeys := false, apart := false }
def FnLinksAreExactlyTheLinkFieldsInOrderSaid : Prop := fnLinksAreExactlyTheLinkFieldsInOrderRow.holds Try.pinned (OpenSpec.ofChange fnLinksAreExactlyTheLinkFieldsInOrderSpec)

/-- ITS FALSE NEIGHBOUR: 'it returns false'. Refute it at one input. -/
def fnLinksAreExactlyTheLinkFieldsInOrderWrong : ChangeSpec := { name := "fnLinksAreExactlyTheLinkFieldsInOrder", fn := fun _ => fun
  | [d] => { results := [.lit (.bool false)], args := [d] }
  | _ => none }
def FnLinksAreExactlyTheLinkFieldsInOrderWrongFalsely : Prop := fnLinksAreExactlyTheLinkFieldsInOrderRow.holds Try.pinned (OpenSpec.ofChange fnLinksAreExactlyTheLinkFieldsInOrderWrong)

/-- 'zzlaws_pkg_declaration_b1.FnLinksIdempotent': WHATEVER THE INPUT: true; the input reads as it did. -/
def fnLinksIdempotentSpec : ChangeSpec := { name := "fnLinksIdempotent", fn := fun _ => fun
  | [d] => { results := [.lit (.bool true)], args := [d] }
  | _ => none }
def fnLinksIdempotentRow : OpenClaim := { program := "qxb6000875a", sum := "35b570b7cc6ba3bd4363f880a9dbd3a93cf9b2d7ac83f6357fd9f53884b7ed96", func := "example.com/stonekeel/stonekeel/zzlaws_pkg_declaration_b1.FnLinksIdempotent", spec := "fnLinksIdempotent", plainKeys := false, apart := false }
def FnLinksIdempotentSaid : Prop := fnLinksIdempotentRow.holds Try.pinned (OpenSpec.ofChange fnLinksIdempotentSpec)

/-- ITS FALSE NEIGHBOUR: 'it returns false'. Refute it at one input. -/
def fnLinksIdempotentWrong : ChangeSpec := { name := "fnLinksIdempotent", fn := fun _ => fun
  | [d] => { results := [.lit (.bool false)], args := [d] }
  | _ => none }
def FnLinksIdempotentWrongFalsely : Prop := fnLinksIdempotentRow.holds Try.pinned (OpenSpec.ofChange fnLinksIdempotentWrong)

/-- 'zzlaws_pkg_declaration_b1.FnLinksDistributesOverConcatenation': WHATEVER THE INPUT: true; the input reads as it did. -/
def fnLinksDistributesOverConcatenationSpec : ChangeSpec := { name := "fnLinksDistributesOverConcatenation", fn := fun _ => fun
  | [d1, d2] => { results := [.lit (.bool true)], args := [d1, d2] }
  | _ => none }
def fnLinksDistributesOverConcatenationRow : OpenClaim := { program := "qxb6000875a", sum := "35b570b7cc6ba3bd4363f880a9dbd3a93cf9b2d7ac83f6357fd9f53884b7ed96", func := "example.com/stonekeel/stonekeel/zzlaws_pkg_declaration_b1.FnLinksDistributesOverConcatenation", spec := "fnLinksDistributesOverConcatenation", plainKeys := false, apart := false }
def FnLinksDistributesOverConcatenationSaid : Prop := fnLinksDistributesOverConcatenationRow.holds Try.pinned (OpenSpec.ofChange fnLinksDistributesOverConcatenationSpec)

/-- ITS FALSE NEIGHBOUR: 'it returns false'. Refute it at one input. -/
def fnLinksDistributesOverConcatenationWrong : ChangeSpec := { name := "fnLinksDistributesOverConcatenation", fn := fun _ => fun
  | [d1, d2] => { results := [.lit (.bool false)], args := [d1, d2] }
  | _ => none }
def FnLinksDistributesOverConcatenationWrongFalsely : Prop := fnLinksDistributesOverConcatenationRow.holds Try.pinned (OpenSpec.ofChange fnLinksDistributesOverConcatenationWrong)

end Rows
end Go.Proofs.Qxb6000875a
