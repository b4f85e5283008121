import Derived.Test.Qxb6600053aCe
import Derived.Test.Qxb6600053aCf
namespace Go.Proofs.Qxb6600053a
open Go.RowKit

set_option maxRecDepth 100000 in
set_option maxHeartbeats 1600000 in
/-- lengths that do not fit: true at once -/
theorem claw_short (a0 a1 a2 a3 a4 : Option Addr) (n0 n1 n2 n3 n4 c0 c1 c2 c3 c4 : Nat) (kk : Int) (w : World)
    (h : ¬ (n1 = n0 ∧ n2 = n0 ∧ n3 = n0 ∧ n4 = n0 ∧ n0 ≤ 1024)) :
    Calls Try.prog 6 #[.slice a0 n0 c0, .slice a1 n1 c1, .slice a2 n2 c2, .slice a3 n3 c3, .slice a4 n4 c4, .int .i64 kk] w fun e w' => e = .returned (.bool true) ∧ w' = w := by
  have hc : 1024 < n0 ∨ (n0 ≤ 1024 ∧ 1024 < n1) ∨ (n0 ≤ 1024 ∧ n1 ≤ 1024 ∧ 1024 < n2) ∨ (n0 ≤ 1024 ∧ n1 ≤ 1024 ∧ n2 ≤ 1024 ∧ 1024 < n3) ∨
      (n0 ≤ 1024 ∧ n1 ≤ 1024 ∧ n2 ≤ 1024 ∧ n3 ≤ 1024 ∧ 1024 < n4) ∨
      ((n0 ≤ 1024 ∧ n1 ≤ 1024 ∧ n2 ≤ 1024 ∧ n3 ≤ 1024 ∧ n4 ≤ 1024) ∧ (n1 ≠ n0 ∨ (n1 = n0 ∧ n2 ≠ n0) ∨ (n1 = n0 ∧ n2 = n0 ∧ n3 ≠ n0) ∨ (n1 = n0 ∧ n2 = n0 ∧ n3 = n0 ∧ n4 ≠ n0))) := by omega
  clear h
  go_enter Try.func6, Try.ntmps6
  go_wp2_with fail
  refine (cbytes_any _ _ _ _ _ _ _ _ _ _ _ _ _ _ _ _ _).mono ?_
  rintro e w' ⟨b, rfl, rfl⟩
  cases b
  · clear hc
    go_wp2_with fail
    go_ret
    exact ⟨rfl, rfl⟩
  · rcases hc with h | ⟨g0, h⟩ | ⟨g0, g1, h⟩ | ⟨g0, g1, g2, h⟩ | ⟨g0, g1, g2, g3, h⟩ | ⟨⟨g0, g1, g2, g3, g4⟩, h | ⟨rfl, h⟩ | ⟨rfl, rfl, h⟩ | ⟨rfl, rfl, rfl, h⟩⟩
    all_goals
      go_wp2_with fail
      go_ret
      exact ⟨rfl, rfl⟩
end Go.Proofs.Qxb6600053a
