import Derived.Test.Qxb6000409aM
import Derived.Test.Qxb6000409aZt
namespace Go.Proofs.Qxb6000409a
open Go.ChangeShapes Go.WideShapes Go.ChangeAt Go.RowKit

theorem closed8 : joinedFacts Try.prog 8 Try.f8 Rows.fnThroughIsExactlyTheGroupsBetweenSpec Rows.fnThroughIsExactlyTheGroupsBetweenRow = true := by
  unfold joinedFacts
  simp only [Bool.and_eq_true]
  exact ⟨⟨⟨⟨⟨⟨⟨⟨⟨⟨⟨⟨⟨⟨⟨⟨⟨⟨⟨⟨⟨⟨⟨⟨⟨⟨⟨⟨⟨⟨⟨(by kernel_rfl), (by kernel_rfl)⟩, (by kernel_rfl)⟩, (by kernel_rfl)⟩, (by kernel_rfl)⟩, (by kernel_rfl)⟩, (by kernel_rfl)⟩, (by kernel_rfl)⟩, (by kernel_rfl)⟩, (by kernel_rfl)⟩, (by kernel_rfl)⟩, (by kernel_rfl)⟩, (by kernel_rfl)⟩, (by kernel_rfl)⟩, (by kernel_rfl)⟩, (by kernel_rfl)⟩, (by kernel_rfl)⟩, (by kernel_rfl)⟩, (by kernel_rfl)⟩, (by kernel_rfl)⟩, (by kernel_rfl)⟩, (by kernel_rfl)⟩, (by kernel_rfl)⟩, (by kernel_rfl)⟩, (by kernel_rfl)⟩, enter_ok⟩, (by rw [lifts_ok]; rfl)⟩, (by rw [make_ok]; rfl)⟩, (by kernel_rfl)⟩, (by kernel_rfl)⟩, (by kernel_rfl)⟩, (by kernel_rfl)⟩

theorem through_over : Rows.fnThroughIsExactlyTheGroupsBetweenRow.holds Try.pinned (OpenSpec.ofChange Rows.fnThroughIsExactlyTheGroupsBetweenSpec) :=
  OpenClaim.holds_of_wide 8 Try.f8 rfl rfl rfl rfl rfl rfl rfl ⟨rfl, rfl, rfl, rfl, rfl⟩ rfl rfl rfl rfl rfl (by kernel_rfl) Try.func8 closed8
    (of_decide_eq_true (by kernel_rfl)) (by unfold Func.isWrapper; rw [if_neg (of_decide_eq_false (by kernel_rfl))]; exact ⟨rfl, rfl⟩)
    (fun os started H enc _ => through_lifted os started H enc)

theorem through_between : Rows.FnThroughIsExactlyTheGroupsBetweenSaid := through_over
end Go.Proofs.Qxb6000409a
