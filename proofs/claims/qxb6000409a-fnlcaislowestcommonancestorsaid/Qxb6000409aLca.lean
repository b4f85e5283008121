import Derived.Test.Qxb6000409aM
import Derived.Test.Qxb6000409aZ
namespace Go.Proofs.Qxb6000409a
open Go.ChangeShapes Go.WideShapes Go.ChangeAt Go.RowKit

theorem closed5 : joinedFacts Try.prog 5 Try.f5 Rows.fnLcaIsLowestCommonAncestorSpec Rows.fnLcaIsLowestCommonAncestorRow = true := by
  unfold joinedFacts
  simp only [Bool.and_eq_true]
  exact ⟨⟨⟨⟨⟨⟨⟨⟨⟨⟨⟨⟨⟨⟨⟨⟨⟨⟨⟨⟨⟨⟨⟨⟨⟨⟨⟨⟨⟨⟨⟨(by kernel_rfl), (by kernel_rfl)⟩, (by kernel_rfl)⟩, (by kernel_rfl)⟩, (by kernel_rfl)⟩, (by kernel_rfl)⟩, (by kernel_rfl)⟩, (by kernel_rfl)⟩, (by kernel_rfl)⟩, (by kernel_rfl)⟩, (by kernel_rfl)⟩, (by kernel_rfl)⟩, (by kernel_rfl)⟩, (by kernel_rfl)⟩, (by kernel_rfl)⟩, (by kernel_rfl)⟩, (by kernel_rfl)⟩, (by kernel_rfl)⟩, (by kernel_rfl)⟩, (by kernel_rfl)⟩, (by kernel_rfl)⟩, (by kernel_rfl)⟩, (by kernel_rfl)⟩, (by kernel_rfl)⟩, (by kernel_rfl)⟩, enter_ok⟩, (by rw [lifts_ok]; rfl)⟩, (by rw [make_ok]; rfl)⟩, (by kernel_rfl)⟩, (by kernel_rfl)⟩, (by kernel_rfl)⟩, (by kernel_rfl)⟩

theorem lca_over : Rows.fnLcaIsLowestCommonAncestorRow.holds Try.pinned (OpenSpec.ofChange Rows.fnLcaIsLowestCommonAncestorSpec) :=
  OpenClaim.holds_of_wide 5 Try.f5 rfl rfl rfl rfl rfl rfl rfl ⟨rfl, rfl, rfl, rfl, rfl⟩ rfl rfl rfl rfl rfl (by kernel_rfl) Try.func5 closed5
    (of_decide_eq_true (by kernel_rfl)) (by unfold Func.isWrapper; rw [if_neg (of_decide_eq_false (by kernel_rfl))]; exact ⟨rfl, rfl⟩)
    (fun os started H enc _ => lca_lifted os started H enc)

theorem lca_lowest : Rows.FnLcaIsLowestCommonAncestorSaid := lca_over
end Go.Proofs.Qxb6000409a
