/-
  No cell of these rows narrows 'for every input' (looked for: loops, veiled, ifaces, maps, wideKeys, modest, calm, conditions, laid).
  DERIVED. THE GIVEN ROWS OF THIS SEAT. 7 by the template 'for every input the law returns true; each argument reads behind the call as it read before'; 0 by the template 'total and deterministic' (their statements: Qxb6000409aTotals.lean).
  GIVEN WITH THE SEED: the statements are not yours to turn. If you find one false, say at which input.
  Laid BY PROGRAM, IN A SANDBOX (cutbox-rows.mjs): the forced cells as the released guide's own fill.sh prints them over the translation 8cc413eafe4ea531… (all of the seat's roots in one cut). By AI agents, Wed Nov 11 2026. No macro, syntax, notation, axiom, sorry.
-/
import Derived.Test.Qxb6000409aChecked
import GoSem.Claim
import GoSem.ClaimJoined
import GoSem.ClaimMapViews
import Derived.JoinedTies
import Derived.KernelRfl
namespace Go.Proofs.Qxb6000409a
/- THE CELL 'sum', in the pinned program and in every row, IS THE sha256 OF THE DUMP (.gsa) THAT Qxb6000409aProg.lean LOADS. Nothing in Lean hashes anything: it is a label: what it is worth is what the hold of that sum in a sandbox is worth. -/
noncomputable def Try.pinned : Pinned := { name := "qxb6000409a", sum := "8cc413eafe4ea531695957d41218cc03770fcb249dd1d7d1172050ec529c847d", checked := Try.checked }
namespace Rows
def none {H : Type} : Left H := { results := [], args := [] }

/-- 'zzlaws_internal_tree_b1.FnNewParentAndDepth': WHATEVER THE INPUT: true; the input reads as it did. -/
def fnNewParentAndDepthSpec : ChangeSpec := { name := "fnNewParentAndDepth", fn := fun _ => fun
  | [d1, d2] => { results := [.lit (.bool true)], args := [d1, d2] }
  | _ => none }
def fnNewParentAndDepthRow : OpenClaim := { program := "qxb6000409a", sum := "8cc413eafe4ea531695957d41218cc03770fcb249dd1d7d1172050ec529c847d", func := "example.com/ordercast/ordercast/zzlaws_internal_tree_b1.FnNewParentAndDepth", spec := "fnNewParentAndDepth", apart := false }
def FnNewParentAndDepthSaid : Prop := fnNewParentAndDepthRow.holds Try.pinned (OpenSpec.ofChange fnNewParentAndDepthSpec)

/-- ITS FALSE NEIGHBOUR: 'it returns false'. Refute it at one input. -/
def fnNewParentAndDepthWrong : ChangeSpec := { name := "fnNewParentAndDepth", fn := fun _ => fun
  | [d1, d2] => { results := [.lit (.bool false)], args := [d1, d2] }
  | _ => none }
def FnNewParentAndDepthWrongFalsely : Prop := fnNewParentAndDepthRow.holds Try.pinned (OpenSpec.ofChange fnNewParentAndDepthWrong)

/-- 'zzlaws_internal_tree_b1.FnNewChildrenInvertParents': WHATEVER THE INPUT: true; the input reads as it did. -/
def fnNewChildrenInvertParentsSpec : ChangeSpec := { name := "fnNewChildrenInvertParents", fn := fun _ => fun
  | [d1, d2] => { results := [.lit (.bool true)], args := [d1, d2] }
  | _ => none }
def fnNewChildrenInvertParentsRow : OpenClaim := { program := "qxb6000409a", sum := "8cc413eafe4ea531695957d41218cc03770fcb249dd1d7d1172050ec529c847d", func := "example.com/ordercast/ordercast/zzlaws_internal_tree_b1.FnNewChildrenInvertParents", spec := "fnNewChildrenInvertParents", apart := false }
def FnNewChildrenInvertParentsSaid : Prop := fnNewChildrenInvertParentsRow.holds Try.pinned (OpenSpec.ofChange fnNewChildrenInvertParentsSpec)

/-- ITS FALSE NEIGHBOUR: 'it returns false'. Refute it at one input. -/
def fnNewChildrenInvertParentsWrong : ChangeSpec := { name := "fnNewChildrenInvertParents", fn := fun _ => fun
  | [d1, d2] => { results := [.lit (.bool false)], args := [d1, d2] }
  | _ => none }
def FnNewChildrenInvertParentsWrongFalsely : Prop := fnNewChildrenInvertParentsRow.holds Try.pinned (OpenSpec.ofChange fnNewChildrenInvertParentsWrong)

/-- 'zzlaws_internal_tree_b1.FnLcaIsLowestCommonAncestor': WHATEVER THE INPUT: true; the input reads as it did. -/
def fnLcaIsLowestCommonAncestorSpec : ChangeSpec := { name := "fnLcaIsLowestCommonAncestor", fn := fun _ => fun
  | [d1, d2, d3] => { results := [.lit (.bool true)], args := [d1, d2, d3] }
  | _ => none }
def fnLcaIsLowestCommonAncestorRow : OpenClaim := { program := "qxb6000409a", sum := "8cc413eafe4ea531695957d41218cc03770fcb249dd1d7d1172050ec529c847d", func := "example.com/ordercast/ordercast/zzlaws_internal_tree_b1.FnLcaIsLowestCommonAncestor", spec := "fnLcaIsLowestCommonAncestor", apart := false }
def FnLcaIsLowestCommonAncestorSaid : Prop := fnLcaIsLowestCommonAncestorRow.holds Try.pinned (OpenSpec.ofChange fnLcaIsLowestCommonAncestorSpec)

/-- ITS FALSE NEIGHBOUR: 'it returns false'. Refute it at one input. -/
def fnLcaIsLowestCommonAncestorWrong : ChangeSpec := { name := "fnLcaIsLowestCommonAncestor", fn := fun _ => fun
  | [d1, d2, d3] => { results := [.lit (.bool false)], args := [d1, d2, d3] }
  | _ => none }
def FnLcaIsLowestCommonAncestorWrongFalsely : Prop := fnLcaIsLowestCommonAncestorRow.holds Try.pinned (OpenSpec.ofChange fnLcaIsLowestCommonAncestorWrong)

/-- 'zzlaws_internal_tree_b1.FnLcaOrderFree': WHATEVER THE INPUT: true; the input reads as it did. -/
def fnLcaOrderFreeSpec : ChangeSpec := { name := "fnLcaOrderFree", fn := fun _ => fun
  | [d1, d2, d3] => { results := [.lit (.bool true)], args := [d1, d2, d3] }
  | _ => none }
def fnLcaOrderFreeRow : OpenClaim := { program := "qxb6000409a", sum := "8cc413eafe4ea531695957d41218cc03770fcb249dd1d7d1172050ec529c847d", func := "example.com/ordercast/ordercast/zzlaws_internal_tree_b1.FnLcaOrderFree", spec := "fnLcaOrderFree", apart := false }
def FnLcaOrderFreeSaid : Prop := fnLcaOrderFreeRow.holds Try.pinned (OpenSpec.ofChange fnLcaOrderFreeSpec)

/-- ITS FALSE NEIGHBOUR: 'it returns false'. Refute it at one input. -/
def fnLcaOrderFreeWrong : ChangeSpec := { name := "fnLcaOrderFree", fn := fun _ => fun
  | [d1, d2, d3] => { results := [.lit (.bool false)], args := [d1, d2, d3] }
  | _ => none }
def FnLcaOrderFreeWrongFalsely : Prop := fnLcaOrderFreeRow.holds Try.pinned (OpenSpec.ofChange fnLcaOrderFreeWrong)

/-- 'zzlaws_internal_tree_b1.FnLcaSplitAgrees': WHATEVER THE INPUT: true; the input reads as it did. -/
def fnLcaSplitAgreesSpec : ChangeSpec := { name := "fnLcaSplitAgrees", fn := fun _ => fun
  | [d1, d2, d3] => { results := [.lit (.bool true)], args := [d1, d2, d3] }
  | _ => none }
def fnLcaSplitAgreesRow : OpenClaim := { program := "qxb6000409a", sum := "8cc413eafe4ea531695957d41218cc03770fcb249dd1d7d1172050ec529c847d", func := "example.com/ordercast/ordercast/zzlaws_internal_tree_b1.FnLcaSplitAgrees", spec := "fnLcaSplitAgrees", apart := false }
def FnLcaSplitAgreesSaid : Prop := fnLcaSplitAgreesRow.holds Try.pinned (OpenSpec.ofChange fnLcaSplitAgreesSpec)

/-- ITS FALSE NEIGHBOUR: 'it returns false'. Refute it at one input. -/
def fnLcaSplitAgreesWrong : ChangeSpec := { name := "fnLcaSplitAgrees", fn := fun _ => fun
  | [d1, d2, d3] => { results := [.lit (.bool false)], args := [d1, d2, d3] }
  | _ => none }
def FnLcaSplitAgreesWrongFalsely : Prop := fnLcaSplitAgreesRow.holds Try.pinned (OpenSpec.ofChange fnLcaSplitAgreesWrong)

/-- 'zzlaws_internal_tree_b1.FnThroughIsExactlyTheGroupsBetween': WHATEVER THE INPUT: true; the input reads as it did. -/
def fnThroughIsExactlyTheGroupsBetweenSpec : ChangeSpec := { name := "fnThroughIsExactlyTheGroupsBetween", fn := fun _ => fun
  | [d1, d2, d3] => { results := [.lit (.bool true)], args := [d1, d2, d3] }
  | _ => none }
def fnThroughIsExactlyTheGroupsBetweenRow : OpenClaim := { program := "qxb6000409a", sum := "8cc413eafe4ea531695957d41218cc03770fcb249dd1d7d1172050ec529c847d", func := "example.com/ordercast/ordercast/zzlaws_internal_tree_b1.FnThroughIsExactlyTheGroupsBetween", spec := "fnThroughIsExactlyTheGroupsBetween", apart := false }
def FnThroughIsExactlyTheGroupsBetweenSaid : Prop := fnThroughIsExactlyTheGroupsBetweenRow.holds Try.pinned (OpenSpec.ofChange fnThroughIsExactlyTheGroupsBetweenSpec)

/-- ITS FALSE NEIGHBOUR: 'it returns false'. Refute it at one input. -/
def fnThroughIsExactlyTheGroupsBetweenWrong : ChangeSpec := { name := "fnThroughIsExactlyTheGroupsBetween", fn := fun _ => fun
  | [d1, d2, d3] => { results := [.lit (.bool false)], args := [d1, d2, d3] }
  | _ => none }
def FnThroughIsExactlyTheGroupsBetweenWrongFalsely : Prop := fnThroughIsExactlyTheGroupsBetweenRow.holds Try.pinned (OpenSpec.ofChange fnThroughIsExactlyTheGroupsBetweenWrong)

/-- 'zzlaws_internal_tree_b1.FnThroughClosedUnderAddingIt': WHATEVER THE INPUT: true; the input reads as it did. -/
def fnThroughClosedUnderAddingItSpec : ChangeSpec := { name := "fnThroughClosedUnderAddingIt", fn := fun _ => fun
  | [d1, d2, d3] => { results := [.lit (.bool true)], args := [d1, d2, d3] }
  | _ => none }
def fnThroughClosedUnderAddingItRow : OpenClaim := { program := "qxb6000409a", sum := "8cc413eafe4ea531695957d41218cc03770fcb249dd1d7d1172050ec529c847d", func := "example.com/ordercast/ordercast/zzlaws_internal_tree_b1.FnThroughClosedUnderAddingIt", spec := "fnThroughClosedUnderAddingIt", apart := false }
def FnThroughClosedUnderAddingItSaid : Prop := fnThroughClosedUnderAddingItRow.holds Try.pinned (OpenSpec.ofChange fnThroughClosedUnderAddingItSpec)

/-- ITS FALSE NEIGHBOUR: 'it returns false'. Refute it at one input. -/
def fnThroughClosedUnderAddingItWrong : ChangeSpec := { name := "fnThroughClosedUnderAddingIt", fn := fun _ => fun
  | [d1, d2, d3] => { results := [.lit (.bool false)], args := [d1, d2, d3] }
  | _ => none }
def FnThroughClosedUnderAddingItWrongFalsely : Prop := fnThroughClosedUnderAddingItRow.holds Try.pinned (OpenSpec.ofChange fnThroughClosedUnderAddingItWrong)

end Rows
end Go.Proofs.Qxb6000409a
