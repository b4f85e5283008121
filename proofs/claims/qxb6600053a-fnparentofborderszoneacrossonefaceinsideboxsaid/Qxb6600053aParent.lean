import Derived.Test.Qxb6600053aM
import Derived.Test.Qxb6600053aZ
namespace Go.Proofs.Qxb6600053a
open Go.ChangeShapes Go.WideShapes Go.ChangeAt Go.RowKit

theorem closed10 : joinedFacts Try.prog 10 Try.f10 Rows.fnParentOfBordersZoneAcrossOneFaceInsideBoxSpec Rows.fnParentOfBordersZoneAcrossOneFaceInsideBoxRow = true := by
  unfold joinedFacts
  simp only [Bool.and_eq_true]
  exact ⟨⟨⟨⟨⟨⟨⟨⟨⟨⟨⟨⟨⟨⟨⟨⟨⟨⟨⟨⟨⟨⟨⟨⟨⟨⟨⟨⟨⟨⟨⟨(by kernel_rfl), (by kernel_rfl)⟩, (by kernel_rfl)⟩, (by kernel_rfl)⟩, (by kernel_rfl)⟩, (by kernel_rfl)⟩, (by kernel_rfl)⟩, (by kernel_rfl)⟩, (by kernel_rfl)⟩, (by kernel_rfl)⟩, (by kernel_rfl)⟩, (by kernel_rfl)⟩, (by kernel_rfl)⟩, (by kernel_rfl)⟩, (by kernel_rfl)⟩, (by kernel_rfl)⟩, (by kernel_rfl)⟩, (by kernel_rfl)⟩, (by kernel_rfl)⟩, (by kernel_rfl)⟩, (by kernel_rfl)⟩, (by kernel_rfl)⟩, (by kernel_rfl)⟩, (by kernel_rfl)⟩, (by kernel_rfl)⟩, enter_ok⟩, (by rw [lifts_ok]; rfl)⟩, (by rw [make_ok]; rfl)⟩, (by kernel_rfl)⟩, (by kernel_rfl)⟩, (by kernel_rfl)⟩, (by kernel_rfl)⟩

theorem parent_over : Rows.fnParentOfBordersZoneAcrossOneFaceInsideBoxRow.holds Try.pinned (OpenSpec.ofChange Rows.fnParentOfBordersZoneAcrossOneFaceInsideBoxSpec) :=
  OpenClaim.holds_of_wide 10 Try.f10 rfl rfl rfl rfl rfl rfl rfl ⟨rfl, rfl, rfl, rfl, rfl⟩ rfl rfl rfl rfl rfl (by kernel_rfl) Try.func10 closed10
    (of_decide_eq_true (by kernel_rfl)) (by unfold Func.isWrapper; rw [if_neg (of_decide_eq_false (by kernel_rfl))]; exact ⟨rfl, rfl⟩)
    (fun os started H enc _ => parent_lifted os started H enc)

theorem parentOf_borders : Rows.FnParentOfBordersZoneAcrossOneFaceInsideBoxSaid := parent_over
end Go.Proofs.Qxb6600053a
