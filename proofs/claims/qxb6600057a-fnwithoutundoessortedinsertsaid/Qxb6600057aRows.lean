/-
  No cell of these rows narrows 'for every input' (looked for: loops, veiled, ifaces, maps, wideKeys, modest, calm, conditions, laid).
  DERIVED. THE GIVEN ROWS OF THIS SEAT. 3 by the template 'for every input the law returns true; each argument reads behind the call as it read before'; 0 by the template 'total and deterministic' (their statements: Qxb6600057aTotals.lean).
  GIVEN WITH THE SEED: the statements are not yours to turn. If you find one false, say at which input.
  Laid BY PROGRAM, IN A SANDBOX (cutbox-rows.mjs): the forced cells as the released guide's own fill.sh prints them over the translation 4ea2183e4e38d1b6… (all of the seat's roots in one cut). By AI agents, Wed Nov 11 2026. No macro, syntax, notation, axiom, sorry.
-/
import Derived.Test.Qxb6600057aChecked
import GoSem.Claim
import GoSem.ClaimJoined
import GoSem.ClaimMapViews
import Derived.JoinedTies
import Derived.KernelRfl
namespace Go.Proofs.Qxb6600057a
/- THE CELL 'sum', in the pinned program and in every row, IS THE sha256 OF THE DUMP (.gsa) THAT Qxb6600057aProg.lean LOADS. Nothing in Lean hashes anything: it is a label: what it is worth is what the hold of that sum in a sandbox is worth. -/
noncomputable def Try.pinned : Pinned := { name := "qxb6600057a", sum := "4ea2183e4e38d1b678ab429311af017f0e8261315f0132bbd7d4e535ccbdeaa5", checked := Try.checked }
namespace Rows
def none {H : Type} : Left H := { results := [], args := [] }

/-- 'zzlaws_pkg_store_b1.FnWithoutMatchesLinearModel': WHATEVER THE INPUT: true; the input reads as it did. -/
def fnWithoutMatchesLinearModelSpec : ChangeSpec := { name := "fnWithoutMatchesLinearModel", fn := fun _ => fun
  | [d1, d2] => { results := [.lit (.bool true)], args := [d1, d2] }
  | _ => none }
def fnWithoutMatchesLinearModelRow : OpenClaim := { program := "qxb6600057a", sum := "4ea2183e4e38d1b678ab429311af017f0e8261315f0132bbd7d4e535ccbdeaa5", func := "example.com/eurycleia/eurycleia/zzlaws_pkg_store_b1.FnWithoutMatchesLinearModel", spec := "fnWithoutMatchesLinearModel", apart := false }
def FnWithoutMatchesLinearModelSaid : Prop := fnWithoutMatchesLinearModelRow.holds Try.pinned (OpenSpec.ofChange fnWithoutMatchesLinearModelSpec)

/-- ITS FALSE NEIGHBOUR: 'it returns false'. Refute it at one input. -/
def fnWithoutMatchesLinearModelWrong : ChangeSpec := { name := "fnWithoutMatchesLinearModel", fn := fun _ => fun
  | [d1, d2] => { results := [.lit (.bool false)], args := [d1, d2] }
  | _ => none }
def FnWithoutMatchesLinearModelWrongFalsely : Prop := fnWithoutMatchesLinearModelRow.holds Try.pinned (OpenSpec.ofChange fnWithoutMatchesLinearModelWrong)

/-- 'zzlaws_pkg_store_b1.FnWithoutUndoesSortedInsert': WHATEVER THE INPUT: true; the input reads as it did. -/
def fnWithoutUndoesSortedInsertSpec : ChangeSpec := { name := "fnWithoutUndoesSortedInsert", fn := fun _ => fun
  | [d1, d2] => { results := [.lit (.bool true)], args := [d1, d2] }
  | _ => none }
def fnWithoutUndoesSortedInsertRow : OpenClaim := { program := "qxb6600057a", sum := "4ea2183e4e38d1b678ab429311af017f0e8261315f0132bbd7d4e535ccbdeaa5", func := "example.com/eurycleia/eurycleia/zzlaws_pkg_store_b1.FnWithoutUndoesSortedInsert", spec := "fnWithoutUndoesSortedInsert", apart := false }
def FnWithoutUndoesSortedInsertSaid : Prop := fnWithoutUndoesSortedInsertRow.holds Try.pinned (OpenSpec.ofChange fnWithoutUndoesSortedInsertSpec)

/-- ITS FALSE NEIGHBOUR: 'it returns false'. Refute it at one input. -/
def fnWithoutUndoesSortedInsertWrong : ChangeSpec := { name := "fnWithoutUndoesSortedInsert", fn := fun _ => fun
  | [d1, d2] => { results := [.lit (.bool false)], args := [d1, d2] }
  | _ => none }
def FnWithoutUndoesSortedInsertWrongFalsely : Prop := fnWithoutUndoesSortedInsertRow.holds Try.pinned (OpenSpec.ofChange fnWithoutUndoesSortedInsertWrong)

/-- 'zzlaws_pkg_store_b1.FnWithoutOnSetLeavesSetWithoutName': WHATEVER THE INPUT: true; the input reads as it did. -/
def fnWithoutOnSetLeavesSetWithoutNameSpec : ChangeSpec := { name := "fnWithoutOnSetLeavesSetWithoutName", fn := fun _ => fun
  | [d1, d2] => { results := [.lit (.bool true)], args := [d1, d2] }
  | _ => none }
def fnWithoutOnSetLeavesSetWithoutNameRow : OpenClaim := { program := "qxb6600057a", sum := "4ea2183e4e38d1b678ab429311af017f0e8261315f0132bbd7d4e535ccbdeaa5", func := "example.com/eurycleia/eurycleia/zzlaws_pkg_store_b1.FnWithoutOnSetLeavesSetWithoutName", spec := "fnWithoutOnSetLeavesSetWithoutName", apart := false }
def FnWithoutOnSetLeavesSetWithoutNameSaid : Prop := fnWithoutOnSetLeavesSetWithoutNameRow.holds Try.pinned (OpenSpec.ofChange fnWithoutOnSetLeavesSetWithoutNameSpec)

/-- ITS FALSE NEIGHBOUR: 'it returns false'. Refute it at one input. -/
def fnWithoutOnSetLeavesSetWithoutNameWrong : ChangeSpec := { name := "fnWithoutOnSetLeavesSetWithoutName", fn := fun _ => fun
  | [d1, d2] => { results := [.lit (.bool false)], args := [d1, d2] }
  | _ => none }
def FnWithoutOnSetLeavesSetWithoutNameWrongFalsely : Prop := fnWithoutOnSetLeavesSetWithoutNameRow.holds Try.pinned (OpenSpec.ofChange fnWithoutOnSetLeavesSetWithoutNameWrong)

end Rows
end Go.Proofs.Qxb6600057a
