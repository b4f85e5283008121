import Derived.Test.Qxb6600057aM
import Derived.Test.Qxb6600057aZ
namespace Go.Proofs.Qxb6600057a
open Go.ChangeShapes Go.WideShapes Go.ChangeAt Go.RowKit

theorem closed3 : joinedFacts Try.prog 3 Try.f3 Rows.fnWithoutMatchesLinearModelSpec Rows.fnWithoutMatchesLinearModelRow = true := by
  unfold joinedFacts
  simp only [Bool.and_eq_true]
  exact ⟨⟨⟨⟨⟨⟨⟨⟨⟨⟨⟨⟨⟨⟨⟨⟨⟨⟨⟨⟨⟨⟨⟨⟨⟨⟨⟨⟨⟨⟨⟨(by kernel_rfl), (by kernel_rfl)⟩, (by kernel_rfl)⟩, (by kernel_rfl)⟩, (by kernel_rfl)⟩, (by kernel_rfl)⟩, (by kernel_rfl)⟩, (by kernel_rfl)⟩, (by kernel_rfl)⟩, (by kernel_rfl)⟩, (by kernel_rfl)⟩, (by kernel_rfl)⟩, (by kernel_rfl)⟩, (by kernel_rfl)⟩, (by kernel_rfl)⟩, (by kernel_rfl)⟩, (by kernel_rfl)⟩, (by kernel_rfl)⟩, (by kernel_rfl)⟩, (by kernel_rfl)⟩, (by kernel_rfl)⟩, (by kernel_rfl)⟩, (by kernel_rfl)⟩, (by kernel_rfl)⟩, (by kernel_rfl)⟩, enter_ok⟩, (by rw [lifts_ok]; rfl)⟩, (by rw [make_ok]; rfl)⟩, (by kernel_rfl)⟩, (by kernel_rfl)⟩, (by kernel_rfl)⟩, (by kernel_rfl)⟩

theorem matches_over : Rows.fnWithoutMatchesLinearModelRow.holds Try.pinned (OpenSpec.ofChange Rows.fnWithoutMatchesLinearModelSpec) :=
  OpenClaim.holds_of_wide 3 Try.f3 rfl rfl rfl rfl rfl rfl rfl ⟨rfl, rfl, rfl, rfl, rfl⟩ rfl rfl rfl rfl rfl (by kernel_rfl) Try.func3 closed3
    (of_decide_eq_true (by kernel_rfl)) (by unfold Func.isWrapper; rw [if_neg (of_decide_eq_false (by kernel_rfl))]; exact ⟨rfl, rfl⟩)
    (fun os started H enc _ => matches_lifted os started H enc)

theorem matches_linear : Rows.FnWithoutMatchesLinearModelSaid := matches_over
end Go.Proofs.Qxb6600057a
