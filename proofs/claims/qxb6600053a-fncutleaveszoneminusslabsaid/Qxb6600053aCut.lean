import Derived.Test.Qxb6600053aM
import Derived.Test.Qxb6600053aCz
namespace Go.Proofs.Qxb6600053a
open Go.ChangeShapes Go.WideShapes Go.ChangeAt Go.RowKit

theorem closed6 : joinedFacts Try.prog 6 Try.f6 Rows.fnCutLeavesZoneMinusSlabSpec Rows.fnCutLeavesZoneMinusSlabRow = true := by
  unfold joinedFacts
  simp only [Bool.and_eq_true]
  exact ⟨⟨⟨⟨⟨⟨⟨⟨⟨⟨⟨⟨⟨⟨⟨⟨⟨⟨⟨⟨⟨⟨⟨⟨⟨⟨⟨⟨⟨⟨⟨(by kernel_rfl), (by kernel_rfl)⟩, (by kernel_rfl)⟩, (by kernel_rfl)⟩, (by kernel_rfl)⟩, (by kernel_rfl)⟩, (by kernel_rfl)⟩, (by kernel_rfl)⟩, (by kernel_rfl)⟩, (by kernel_rfl)⟩, (by kernel_rfl)⟩, (by kernel_rfl)⟩, (by kernel_rfl)⟩, (by kernel_rfl)⟩, (by kernel_rfl)⟩, (by kernel_rfl)⟩, (by kernel_rfl)⟩, (by kernel_rfl)⟩, (by kernel_rfl)⟩, (by kernel_rfl)⟩, (by kernel_rfl)⟩, (by kernel_rfl)⟩, (by kernel_rfl)⟩, (by kernel_rfl)⟩, (by kernel_rfl)⟩, enter_ok⟩, (by rw [lifts_ok]; rfl)⟩, (by rw [make_ok]; rfl)⟩, (by kernel_rfl)⟩, (by kernel_rfl)⟩, (by kernel_rfl)⟩, (by kernel_rfl)⟩

theorem cut_over : Rows.fnCutLeavesZoneMinusSlabRow.holds Try.pinned (OpenSpec.ofChange Rows.fnCutLeavesZoneMinusSlabSpec) :=
  OpenClaim.holds_of_wide 6 Try.f6 rfl rfl rfl rfl rfl rfl rfl ⟨rfl, rfl, rfl, rfl, rfl⟩ rfl rfl rfl rfl rfl (by kernel_rfl) Try.func6 closed6
    (of_decide_eq_true (by kernel_rfl)) (by unfold Func.isWrapper; rw [if_neg (of_decide_eq_false (by kernel_rfl))]; exact ⟨rfl, rfl⟩)
    (fun os started H enc _ => cut_lifted os started H enc)

theorem cut_leaves : Rows.FnCutLeavesZoneMinusSlabSaid := cut_over
end Go.Proofs.Qxb6600053a
