import Derived.Test.Qxb6600053aL
import Derived.Test.Qxb6600053aQ
namespace Go.Proofs.Qxb6600053a
open Go.RowKit

set_option maxRecDepth 100000 in
set_option maxHeartbeats 1600000 in
/-- no dimension -/
theorem law_zero (a0 a1 a2 a3 a4 : Option Addr) (c0 c1 c2 c3 c4 : Nat) (w : World) :
    Calls Try.prog 10 #[.slice a0 0 c0, .slice a1 0 c1, .slice a2 0 c2, .slice a3 0 c3, .slice a4 0 c4] w fun e w' => e = .returned (.bool true) ∧ Below w.heap.size w w' := by
  go_enter Try.func10, Try.ntmps10
  go_wp2_with fail
  refine (bytes_any _ _ _ _ _ _ _ _ _ _ _ _ _ _ _ _).mono ?_
  rintro e w' ⟨b, rfl, rfl⟩
  cases b
  · go_wp2_with fail
    go_ret
    exact ⟨rfl, Below.refl _ _⟩
  · go_wp2_with fail
    refine (wf_zero _ _ _ _ _).mono ?_
    rintro e w' ⟨rfl, rfl⟩
    go_wp2_with fail
    refine (wf_zero _ _ _ _ _).mono ?_
    rintro e w' ⟨rfl, rfl⟩
    go_wp2_with fail
    refine (ov_zero _ _ _ _ _ _ _ _ _).mono ?_
    rintro e w' ⟨rfl, rfl⟩
    go_wp2_with fail
    refine (ho_zero _ _ _ _ _ _ _).mono ?_
    rintro e w' ⟨rfl, rfl⟩
    go_wp2_with fail
    refine (clone_zero _ _ _).mono ?_
    rintro e w1 ⟨⟨a0', c0', rfl⟩, hb1⟩
    go_wp2_with fail
    refine (clone_zero _ _ _).mono ?_
    rintro e w2 ⟨⟨a1', c1', rfl⟩, hb2⟩
    go_wp2_with fail
    refine (clone_zero _ _ _).mono ?_
    rintro e w3 ⟨⟨a2', c2', rfl⟩, hb3⟩
    go_wp2_with fail
    refine (clone_zero _ _ _).mono ?_
    rintro e w4 ⟨⟨a3', c3', rfl⟩, hb4⟩
    go_wp2_with fail
    refine (clone_zero _ _ _).mono ?_
    rintro e w5 ⟨⟨a4', c4', rfl⟩, hb5⟩
    have hb : Hid (Below w'.heap.size w' w5) := (((hb1.trans (hb2.mono hb1.size)).trans (hb3.mono (Nat.le_trans hb1.size hb2.size))).trans (hb4.mono (Nat.le_trans (Nat.le_trans hb1.size hb2.size) hb3.size))).trans (hb5.mono (Nat.le_trans (Nat.le_trans (Nat.le_trans hb1.size hb2.size) hb3.size) hb4.size))
    clear hb1 hb2 hb3 hb4 hb5
    go_wp2_with fail
    refine (zz_zero _ _ _ _ _ _ _).mono ?_
    rintro e w6 ⟨hb6, rfl⟩
    go_wp2_with fail
    refine (ho_zero _ _ _ _ _ _ _).mono ?_
    rintro e w7 ⟨rfl, rfl⟩
    go_wp2_with fail
    go_ret
    exact ⟨rfl, hb.out.trans (hb6.mono hb.out.size)⟩
end Go.Proofs.Qxb6600053a
