import Derived.Test.Qxb6600053aCa
namespace Go.Proofs.Qxb6600053a
open Go.RowKit

set_option maxHeartbeats 400000 in
theorem cbytes_any (a0 a1 a2 a3 a4 : Option Addr) (n0 n1 n2 n3 n4 c0 c1 c2 c3 c4 : Nat) (k : Int) (w : World) :
    Calls Try.prog 19 #[.slice a0 n0 c0, .slice a1 n1 c1, .slice a2 n2 c2, .slice a3 n3 c3, .slice a4 n4 c4, .int .i64 k] w fun e w' => ∃ b, e = .returned (.bool b) ∧ w' = w := by
  go_enter Try.func19, Try.ntmps19
  go_wp2
  all_goals
    go_ret
    exact ⟨_, rfl, rfl⟩

/-! ### overlapsIn -/
def ovI (zl zh ol oh : Nat → Nat) (i : Nat) : Bool := fo (zl i) (oh i) == some .lt && fo (ol i) (zh i) == some .lt

set_option maxHeartbeats 800000 in
theorem ovin_some (b0 f0 b1 f1 b2 f2 b3 f3 n c0 c1 c2 c3 i : Nat) (zl zh ol oh : Nat → Nat) (w : World) (hi : i < n) (h0 : FAt w b0 f0 n zl) (h1 : FAt w b1 f1 n zh) (h2 : FAt w b2 f2 n ol) (h3 : FAt w b3 f3 n oh)
    (k0 : b0 < w.heap.size) (k1 : b1 < w.heap.size) (k2 : b2 < w.heap.size) (k3 : b3 < w.heap.size) :
    Calls Try.prog 35 #[.agg #[.slice (some ⟨b0, f0, none⟩) n c0, .slice (some ⟨b1, f1, none⟩) n c1], .agg #[.slice (some ⟨b2, f2, none⟩) n c2, .slice (some ⟨b3, f3, none⟩) n c3], .int .i64 i] w fun e w' => e = .returned (.bool (ovI zl zh ol oh i)) ∧ Below w.heap.size w w' := by
  have g0 := h0 i hi
  have g1 := h1 i hi
  have g2 := h2 i hi
  have g3 := h3 i hi
  clear h0 h1 h2 h3
  obtain ⟨o, ho⟩ : ∃ o, fo (zl i) (oh i) = o := ⟨_, rfl⟩
  rcases o with _ | _ | _ | _
  all_goals
    go_enter Try.func35, Try.ntmps35
    go_wp2
    go_quiet (fail)
    go_wp2
    go_ret
    refine ⟨ret_bool (by unfold ovI; simp_all), ?_⟩
    exact below_drewN (((Below.refl _ _).alloc (Nat.le_refl _) _).alloc (by simp) _) _

/-! ### inSlab -/
def slP (lo hi p : Nat → Nat) (k : Int) (i : Nat) : Bool := ((i : Int) == k) || hoP lo hi p i

theorem sl_zero (a0 a1 a2 : Option Addr) (c0 c1 c2 : Nat) (k : Int) (w : World) :
    Calls Try.prog 21 #[.slice a0 0 c0, .slice a1 0 c1, .slice a2 0 c2, .int .i64 k] w fun e w' => e = .returned (.bool true) ∧ w' = w := by
  go_enter Try.func21, Try.ntmps21
  go_wp2
  refine wp_loop_rounds 1 ?_
  rw [rounds_succ]
  go_wp2
  go_ret
  exact ⟨rfl, rfl⟩
set_option maxHeartbeats 1600000 in
theorem sl_some (b0 f0 b1 f1 b2 f2 n c0 c1 c2 : Nat) (kk : Int) (lo hi p : Nat → Nat) (w : World) (hn : n ≤ 1048576) (h0 : FAt w b0 f0 n lo) (h1 : FAt w b1 f1 n hi) (h2 : FAt w b2 f2 n p) :
    Calls Try.prog 21 #[.slice (some ⟨b0, f0, none⟩) n c0, .slice (some ⟨b1, f1, none⟩) n c1, .slice (some ⟨b2, f2, none⟩) n c2, .int .i64 kk] w fun e w' => e = .returned (.bool (allB n (slP lo hi p kk))) ∧ ∃ m, w' = w.drewN m := by
  go_enter Try.func21, Try.ntmps21
  go_wp2
  go_loopw [9] (fun i wr => ∃ k m : Nat, k ≤ n ∧ i = .int .i64 k ∧ wr = w.drewN m ∧ Hid (allB k (slP lo hi p kk) = true)) (fun i _ => n - (intOf i).toNat)
  case atStart => exact ⟨0, 0, Nat.zero_le _, rfl, rfl, allB_zero _⟩
  case round =>
    obtain ⟨k, m, hk, rfl, rfl, HB⟩ := hrel
    by_cases hlt : k < n
    · have g0 := h0 k hlt
      have g1 := h1 k hlt
      have g2 := h2 k hlt
      by_cases hkk : (k : Int) = kk
      · have hkk' : ((k : Int) == kk) = true := by simpa using hkk
        have HS : Hid (slP lo hi p kk k = true) := by show slP lo hi p kk k = true; simp [slP, hkk]
        clear hkk
        go_wp2
        go_roundw
        case rel => exact ⟨k + 1, m, hlt, by go_num, rfl, allB_succ HB.out HS.out⟩
        case measure => simp [intOf]; omega
      · have hkk' : ((k : Int) == kk) = false := by simpa using hkk
        have HS : Hid (slP lo hi p kk k = hoP lo hi p k) := by show slP lo hi p kk k = _; simp [slP, hkk]
        clear hkk
        obtain ⟨o, ho⟩ : ∃ o, fo (lo k) (p k) = o := ⟨_, rfl⟩
        rcases o with _ | _ | _ | _
        all_goals
          go_wp2
          go_quiet (fail)
          go_wp2
          all_goals first
            | (go_ret; exact ⟨ret_bool (allB_false hlt (HS.out.trans (by unfold hoP; simp_all))).symm, _, by rw [World.drewN_drewN]⟩)
            | (go_roundw
               case rel => exact ⟨k + 1, _, hlt, by go_num, rfl, allB_succ HB.out (HS.out.trans (by unfold hoP; simp_all))⟩
               case measure => simp [intOf]; omega)
    · go_wp2
      go_ret
      exact ⟨ret_bool (allB_at HB.out hk hlt).symm, _, rfl⟩
end Go.Proofs.Qxb6600053a
