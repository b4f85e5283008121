import Derived.Test.Qxb6600053aA
namespace Go.Proofs.Qxb6600053a
open Go.RowKit

set_option maxHeartbeats 400000 in
theorem bytes_any (a0 a1 a2 a3 a4 : Option Addr) (n0 n1 n2 n3 n4 c0 c1 c2 c3 c4 : Nat) (w : World) :
    Calls Try.prog 27 #[.slice a0 n0 c0, .slice a1 n1 c1, .slice a2 n2 c2, .slice a3 n3 c3, .slice a4 n4 c4] w fun e w' => ∃ b, e = .returned (.bool b) ∧ w' = w := by
  go_enter Try.func27, Try.ntmps27
  go_wp2
  all_goals
    go_ret
    exact ⟨_, rfl, rfl⟩

def posB (lo hi x : Nat) (below : Bool) : Bool :=
  if below then fo lo x == some .lt && (fo x hi == some .lt || fo x hi == some .eq)
  else (fo lo x == some .lt || fo lo x == some .eq) && fo x hi == some .lt

theorem pos_any (lo hi x : Nat) (bl : Bool) (w : World) :
    Calls Try.prog 29 #[.float .f64 lo, .float .f64 hi, .float .f64 x, .bool bl] w fun e w' => e = .returned (.bool (posB lo hi x bl)) ∧ w' = w := by
  cases bl
  · go_enter Try.func29, Try.ntmps29
    go_wp2
    all_goals
      go_ret
      refine ⟨ret_bool ?_, rfl⟩
      simp_all [posB, fo]
  · go_enter Try.func29, Try.ntmps29
    go_wp2
    all_goals
      go_ret
      refine ⟨ret_bool ?_, rfl⟩
      simp_all [posB, fo]

/-! ### overlaps -/
def ovP (zl zh bl bh : Nat → Nat) (i : Nat) : Bool := fo (zl i) (bh i) == some .lt && fo (bl i) (zh i) == some .lt

theorem ov_zero (a0 a1 a2 a3 : Option Addr) (c0 c1 c2 c3 : Nat) (w : World) :
    Calls Try.prog 28 #[.slice a0 0 c0, .slice a1 0 c1, .slice a2 0 c2, .slice a3 0 c3] w fun e w' => e = .returned (.bool true) ∧ w' = w := by
  go_enter Try.func28, Try.ntmps28
  go_wp2
  refine wp_loop_rounds 1 ?_
  rw [rounds_succ]
  go_wp2
  go_ret
  exact ⟨rfl, rfl⟩

set_option maxHeartbeats 800000 in
theorem ov_some (b0 f0 b1 f1 b2 f2 b3 f3 n c0 c1 c2 c3 : Nat) (zl zh bl bh : Nat → Nat) (w : World) (hn : n ≤ 1048576) (h0 : FAt w b0 f0 n zl) (h1 : FAt w b1 f1 n zh) (h2 : FAt w b2 f2 n bl) (h3 : FAt w b3 f3 n bh) :
    Calls Try.prog 28 #[.slice (some ⟨b0, f0, none⟩) n c0, .slice (some ⟨b1, f1, none⟩) n c1, .slice (some ⟨b2, f2, none⟩) n c2, .slice (some ⟨b3, f3, none⟩) n c3] w fun e w' => e = .returned (.bool (allB n (ovP zl zh bl bh))) ∧ ∃ m, w' = w.drewN m := by
  go_enter Try.func28, Try.ntmps28
  go_wp2
  go_loopw [9] (fun i wr => ∃ k m : Nat, k ≤ n ∧ i = .int .i64 k ∧ wr = w.drewN m ∧ Hid (allB k (ovP zl zh bl bh) = true)) (fun i _ => n - (intOf i).toNat)
  case atStart => exact ⟨0, 0, Nat.zero_le _, rfl, rfl, allB_zero _⟩
  case round =>
    obtain ⟨k, m, hk, rfl, rfl, HB⟩ := hrel
    by_cases hlt : k < n
    · have g0 := h0 k hlt
      have g1 := h1 k hlt
      have g2 := h2 k hlt
      have g3 := h3 k hlt
      obtain ⟨o, ho⟩ : ∃ o, fo (zl k) (bh k) = o := ⟨_, rfl⟩
      rcases o with _ | _ | _ | _
      all_goals
        go_wp2
        go_quiet (fail)
        go_wp2
        all_goals first
          | (go_ret; exact ⟨ret_bool (allB_false hlt (by unfold ovP; simp_all)).symm, _, by rw [World.drewN_drewN]⟩)
          | (go_roundw
             case rel => exact ⟨k + 1, _, hlt, by go_num, rfl, allB_succ HB.out (by unfold ovP; simp_all)⟩
             case measure => simp [intOf]; omega)
    · go_wp2
      go_ret
      exact ⟨ret_bool (allB_at HB.out hk hlt).symm, _, rfl⟩
end Go.Proofs.Qxb6600053a
