import Derived.Test.Qxb6600053aCd
namespace Go.Proofs.Qxb6600053a
open Go.RowKit

theorem cut_zero (v0 v1 v2 v3 : Option Addr) (c0 c1 c2 c3 : Nat) (kk : Int) (w : World) :
    Calls Try.prog 32 #[.agg #[.slice v0 0 c0, .slice v1 0 c1], .agg #[.slice v2 0 c2, .slice v3 0 c3], .int .i64 kk, .slice none 0 0] w fun e w' => e = .returned (.slice none 0 0) ∧ Below w.heap.size w w' := by
  go_enter Try.func32, Try.ntmps32
  go_wp2
  refine wp_loop_rounds 1 ?_
  rw [rounds_succ]
  go_wp2
  go_ret
  exact ⟨rfl, ((Below.refl _ _).alloc (Nat.le_refl _) _).alloc (by simp) _⟩

theorem zcut_zero (v0 v1 v2 v3 : Option Addr) (c0 c1 c2 c3 : Nat) (kk : Int) (w : World) :
    Calls Try.prog 20 #[.agg #[.slice v0 0 c0, .slice v1 0 c1], .agg #[.slice v2 0 c2, .slice v3 0 c3], .int .i64 kk, .slice none 0 0] w fun e w' => e = .returned (.slice none 0 0) ∧ Below w.heap.size w w' := by
  go_enter Try.func20, Try.ntmps20
  go_wp2_with fail
  refine (cut_zero _ _ _ _ _ _ _ _ _ _).mono ?_
  rintro e w1 ⟨rfl, hb⟩
  go_wp2
  go_ret
  exact ⟨rfl, (((Below.refl w.heap.size w).alloc (Nat.le_refl _) _).alloc (by simp) _).trans (hb.mono (by simp; omega))⟩

theorem zcut_some (b0 f0 b1 f1 b2 f2 b3 f3 n c0 c1 c2 c3 : Nat) (kk : Int) (zl zh ol oh : Nat → Nat) (w : World) (hn0 : 0 < n) (hn : n ≤ 1048576) (h0 : FAt w b0 f0 n zl) (h1 : FAt w b1 f1 n zh) (h2 : FAt w b2 f2 n ol) (h3 : FAt w b3 f3 n oh) :
    Calls Try.prog 20 #[.agg #[.slice (some ⟨b0, f0, none⟩) n c0, .slice (some ⟨b1, f1, none⟩) n c1], .agg #[.slice (some ⟨b2, f2, none⟩) n c2, .slice (some ⟨b3, f3, none⟩) n c3], .int .i64 kk, .slice none 0 0] w fun e w' => CutPost n zl zh ol oh kk w e w' := by
  have k0 := h0.lt' hn0
  have k1 := h1.lt' hn0
  have k2 := h2.lt' hn0
  have k3 := h3.lt' hn0
  go_enter Try.func20, Try.ntmps20
  go_wp2_with fail
  refine (cut_some b0 f0 b1 f1 b2 f2 b3 f3 n c0 c1 c2 c3 kk zl zh ol oh _ hn0 hn ?_ ?_ ?_ ?_).mono ?_
  · exact (h0.allocd k0).allocd (by simp; omega)
  · exact (h1.allocd k1).allocd (by simp; omega)
  · exact (h2.allocd k2).allocd (by simp; omega)
  · exact (h3.allocd k3).allocd (by simp; omega)
  rintro e w1 ⟨v, Ps, rfl, hp, hb, hc⟩
  have HH := hide (And.intro hp (And.intro hb hc))
  clear hp hb hc h0 h1 h2 h3
  go_wp2
  go_ret
  obtain ⟨hp, hb, hc⟩ := unhide HH
  refine ⟨_, Ps, ?_, hp, (((Below.refl w.heap.size w).alloc (Nat.le_refl _) _).alloc (by simp) _).trans (hb.mono (by simp; omega)), hc⟩
  rfl
end Go.Proofs.Qxb6600053a
