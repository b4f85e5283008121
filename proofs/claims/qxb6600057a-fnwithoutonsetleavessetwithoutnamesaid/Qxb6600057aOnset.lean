import Derived.Test.Qxb6600057aM
import Derived.Test.Qxb6600057aZo
namespace Go.Proofs.Qxb6600057a
open Go.ChangeShapes Go.WideShapes Go.ChangeAt Go.RowKit

theorem closed5 : joinedFacts Try.prog 5 Try.f5 Rows.fnWithoutOnSetLeavesSetWithoutNameSpec Rows.fnWithoutOnSetLeavesSetWithoutNameRow = true := by
  unfold joinedFacts
  simp only [Bool.and_eq_true]
  exact ⟨⟨⟨⟨⟨⟨⟨⟨⟨⟨⟨⟨⟨⟨⟨⟨⟨⟨⟨⟨⟨⟨⟨⟨⟨⟨⟨⟨⟨⟨⟨(by kernel_rfl), (by kernel_rfl)⟩, (by kernel_rfl)⟩, (by kernel_rfl)⟩, (by kernel_rfl)⟩, (by kernel_rfl)⟩, (by kernel_rfl)⟩, (by kernel_rfl)⟩, (by kernel_rfl)⟩, (by kernel_rfl)⟩, (by kernel_rfl)⟩, (by kernel_rfl)⟩, (by kernel_rfl)⟩, (by kernel_rfl)⟩, (by kernel_rfl)⟩, (by kernel_rfl)⟩, (by kernel_rfl)⟩, (by kernel_rfl)⟩, (by kernel_rfl)⟩, (by kernel_rfl)⟩, (by kernel_rfl)⟩, (by kernel_rfl)⟩, (by kernel_rfl)⟩, (by kernel_rfl)⟩, (by kernel_rfl)⟩, enter_ok⟩, (by rw [lifts_ok]; rfl)⟩, (by rw [make_ok]; rfl)⟩, (by kernel_rfl)⟩, (by kernel_rfl)⟩, (by kernel_rfl)⟩, (by kernel_rfl)⟩

theorem onset_over : Rows.fnWithoutOnSetLeavesSetWithoutNameRow.holds Try.pinned (OpenSpec.ofChange Rows.fnWithoutOnSetLeavesSetWithoutNameSpec) :=
  OpenClaim.holds_of_wide 5 Try.f5 rfl rfl rfl rfl rfl rfl rfl ⟨rfl, rfl, rfl, rfl, rfl⟩ rfl rfl rfl rfl rfl (by kernel_rfl) Try.func5 closed5
    (of_decide_eq_true (by kernel_rfl)) (by unfold Func.isWrapper; rw [if_neg (of_decide_eq_false (by kernel_rfl))]; exact ⟨rfl, rfl⟩)
    (fun os started H enc _ => onset_lifted os started H enc)

theorem onset_leaves : Rows.FnWithoutOnSetLeavesSetWithoutNameSaid := onset_over
end Go.Proofs.Qxb6600057a
