import Derived.Test.Qxb6000409aC
namespace Go.Proofs.Qxb6000409a
open Go.RowKit

/-- the call answers a bool that says P, and leaves the world -/
def Ans (P : Prop) (w : World) (e : Ending) (w' : World) : Prop := ∃ t : Bool, e = .returned (.bool t) ∧ (t = true ↔ P) ∧ w' = w
theorem Ans.mk {P : Prop} {w : World} (t : Bool) (h : t = true ↔ P) : Ans P w (.returned (.bool t)) w := ⟨t, rfl, h, rfl⟩
theorem Ans.yes {P : Prop} {w : World} (h : P) : Ans P w (.returned (.bool true)) w := .mk true ⟨fun _ => h, fun _ => rfl⟩
theorem Ans.no {P : Prop} {w : World} (h : ¬ P) : Ans P w (.returned (.bool false)) w := .mk false ⟨fun e => (by cases e), fun p => absurd p h⟩
/-- the call answers a bool; true says P -/
def Imp (P : Prop) (w : World) (e : Ending) (w' : World) : Prop := ∃ t : Bool, e = .returned (.bool t) ∧ (t = true → P) ∧ w' = w
theorem Imp.yes {P : Prop} {w : World} (h : P) : Imp P w (.returned (.bool true)) w := ⟨true, rfl, fun _ => h, rfl⟩
theorem Imp.no {P : Prop} {w : World} : Imp P w (.returned (.bool false)) w := ⟨false, rfl, fun h => (by cases h), rfl⟩

/-! ### treeB1UnderOrAt -/
set_option maxHeartbeats 400000 in
theorem under_some (b f n c : Nat) (q : Nat → Int) (dep : Nat → Nat) (x y : Nat) (w : World) (hn : n ≤ 256) (h0 : IAt w b f n q) (U : Up n q dep) (hy : y < n) :
    Calls Try.prog 32 #[.slice (some ⟨b, f, none⟩) n c, .int .i64 x, .int .i64 y] w (Ans (Anc q x y) w) := by
  go_enter Try.func32, Try.ntmps32
  go_wp2
  go_loop [7, 8] (fun z s => ∃ k : Nat, k ≤ n + 1 ∧ s = .int .i64 k ∧ z = .int .i64 (it q k y) ∧ Hid (∀ i, i < k → it q i y ≠ x)) (fun _ s => n + 1 - (intOf s).toNat)
  case atStart => exact ⟨0, Nat.zero_le _, rfl, rfl, fun i h => absurd h (by omega)⟩
  case round =>
    obtain ⟨k, hk, rfl, rfl, HB⟩ := hrel
    by_cases hd : dep y < k
    · have e := U.it_end k y hy hd
      rw [e]
      go_wp2
      go_ret
      refine .no fun h => ?_
      obtain ⟨s, hs⟩ := h
      by_cases hsk : s < k
      · exact absurd hs (HB.out s hsk)
      · rw [it_stay e (by omega)] at hs; omega
    · obtain ⟨z, hz, e, e2⟩ := U.it_in k y hy (by omega)
      have hl := U.lim y hy
      have hs := it_succ q k y
      rw [e, if_neg (by omega), Int.toNat_natCast] at hs
      rw [e]
      have g0 := h0 z hz
      have hz1 : ((z : Int) != -1) = true := by simp
      have hkn : k ≤ n := by omega
      by_cases hxz : z = x
      · subst hxz
        go_wp2
        go_ret
        exact .yes ⟨k, e⟩
      · have hx' : ¬ (z : Int) = x := by omega
        go_wp2
        go_round
        case rel => exact ⟨k + 1, by omega, by go_num, by rw [hs], fun i hi => by
            by_cases e' : i = k
            · subst e'; rw [e]; omega
            · exact HB.out i (by omega)⟩
        case measure => simp [intOf]; omega

/-! ### treeB1CoversAll -/
set_option maxHeartbeats 400000 in
theorem covers_some (b f n c a b2 f2 m c2 : Nat) (q : Nat → Int) (dep : Nat → Nat) (ix : Nat → Nat) (w : World) (hn : n ≤ 256) (h0 : IAt w b f n q) (U : Up n q dep)
    (hm : m ≤ 256) (h2 : IAt w b2 f2 m (fun i => ix i)) (hi : ∀ i, i < m → ix i < n) :
    Calls Try.prog 22 #[.slice (some ⟨b, f, none⟩) n c, .int .i64 a, .slice (some ⟨b2, f2, none⟩) m c2] w (Ans (∀ i, i < m → Anc q a (ix i)) w) := by
  go_enter Try.func22, Try.ntmps22
  go_wp2
  go_loop [7] (fun i => ∃ k : Nat, k ≤ m ∧ i = .int .i64 k ∧ Hid (∀ i, i < k → Anc q a (ix i))) (fun s => m - (intOf s).toNat)
  case atStart => exact ⟨0, Nat.zero_le _, rfl, fun i h => absurd h (by omega)⟩
  case round =>
    obtain ⟨k, hk, rfl, HB⟩ := hrel
    by_cases hlt : k < m
    · have g0 := h2 k hlt
      go_wp2_with fail
      refine (under_some _ _ _ _ q dep a (ix k) _ hn h0 U (hi k hlt)).mono ?_
      rintro e w'' ⟨t, rfl, ht, rfl⟩
      cases t with
      | true =>
        have ht1 : Hid (Anc q a (ix k)) := ht.1 rfl
        go_wp2
        go_round
        case rel => exact ⟨k + 1, hlt, by go_num, fun i hi => by
            by_cases e' : i = k
            · subst e'; exact ht1.out
            · exact HB.out i (by omega)⟩
        case measure => simp [intOf]; omega
      | false =>
        have ht1 : Hid (¬ Anc q a (ix k)) := fun h => (by have := ht.2 h; cases this)
        go_wp2
        go_ret
        exact .no fun h => ht1.out (h k hlt)
    · go_wp2
      go_ret
      exact .yes fun i hi => HB.out i (by omega)

/-! ### zzBytes of the law -/
/-- the strings are not long -/
def Sz (n : Nat) (x : Nat → ByteArray) : Prop := ∀ i, i < n → (x i).size ≤ 1048576
theorem Sz.zero (x : Nat → ByteArray) : Sz 0 x := fun i h => absurd h (by omega)
theorem Sz.succ {n : Nat} {x : Nat → ByteArray} (h : Sz n x) (h1 : (x n).size ≤ 1048576) : Sz (n + 1) x := fun i hi => by
  by_cases e : i = n
  · exact e ▸ h1
  · exact h i (by omega)
set_option maxRecDepth 100000 in
set_option maxHeartbeats 1600000 in
theorem bytes18 (a0 a1 a2 : Option Addr) (n0 n1 n2 c0 c1 c2 : Nat) (x0 x1 x2 : Nat → ByteArray) (w : World) (h0 : SRow w a0 n0 x0) (h1 : SRow w a1 n1 x1) (h2 : SRow w a2 n2 x2) :
    Calls Try.prog 18 #[.slice a0 n0 c0, .slice a1 n1 c1, .slice a2 n2 c2] w (Imp (Sz n0 x0 ∧ Sz n1 x1) w) := by
  by_cases hn0 : n0 ≤ 1048576
  case neg =>
    go_enter Try.func18, Try.ntmps18
    go_wp2
    go_ret
    exact .no
  go_enter Try.func18, Try.ntmps18
  go_wp2
  go_loop [7, 8] (fun t i => ∃ (k : Nat) (u : Int), k ≤ n0 ∧ i = .int .i64 k ∧ t = .int .i64 u ∧ 0 ≤ u ∧ u ≤ 1048576 ∧ Sz k x0) (fun _ i => n0 - (intOf i).toNat)
  case atStart => exact ⟨0, n0, Nat.zero_le _, rfl, rfl, by omega, by omega, Sz.zero _⟩
  case round =>
    obtain ⟨k, u, hk, rfl, rfl, u0, u1, S0⟩ := hrel
    by_cases hlt : k < n0
    · rcases h0 with e | ⟨b, f, rfl, h0⟩
      · omega
      have g0 := h0 k hlt
      by_cases hs : (x0 k).size ≤ 1048576
      · by_cases hs2 : u + (x0 k).size ≤ 1048576
        · go_wp2
          go_round
          case rel => exact ⟨k + 1, _, hlt, by go_num, rfl, by omega, by omega, S0.succ hs⟩
          case measure => simp [intOf]; omega
        · go_wp2
          go_ret
          exact .no
      · go_wp2
        go_ret
        exact .no
    · by_cases hn1 : n1 ≤ 1048576
      case neg =>
        go_wp2
        go_ret
        exact .no
      by_cases hn1b : u + n1 ≤ 1048576
      case neg =>
        go_wp2
        go_ret
        exact .no
      go_wp2
      obtain rfl : k = n0 := by omega
      clear hk hlt h0
      go_loop [7, 9] (fun t i => ∃ (k : Nat) (u : Int), k ≤ n1 ∧ i = .int .i64 k ∧ t = .int .i64 u ∧ 0 ≤ u ∧ u ≤ 1048576 ∧ Sz k x1) (fun _ i => n1 - (intOf i).toNat)
      case atStart => exact ⟨0, _, Nat.zero_le _, rfl, rfl, by omega, by omega, Sz.zero _⟩
      case round =>
        obtain ⟨k1, u2, hk, rfl, rfl, v0, v1, S1⟩ := hrel
        by_cases hlt : k1 < n1
        · rcases h1 with e | ⟨b, f, rfl, h1⟩
          · omega
          have g0 := h1 k1 hlt
          by_cases hs : (x1 k1).size ≤ 1048576
          · by_cases hs2 : u2 + (x1 k1).size ≤ 1048576
            · go_wp2
              go_round
              case rel => exact ⟨k1 + 1, _, hlt, by go_num, rfl, by omega, by omega, S1.succ hs⟩
              case measure => simp [intOf]; omega
            · go_wp2
              go_ret
              exact .no
          · go_wp2
            go_ret
            exact .no
        · by_cases hn2 : n2 ≤ 1048576
          case neg =>
            go_wp2
            go_ret
            exact .no
          by_cases hn2b : u2 + n2 ≤ 1048576
          case neg =>
            go_wp2
            go_ret
            exact .no
          go_wp2
          obtain rfl : k1 = n1 := by omega
          clear hk hlt h1
          go_loop [7, 10] (fun t i => ∃ (k : Nat) (u : Int), k ≤ n2 ∧ i = .int .i64 k ∧ t = .int .i64 u ∧ 0 ≤ u ∧ u ≤ 1048576) (fun _ i => n2 - (intOf i).toNat)
          case atStart => exact ⟨0, _, Nat.zero_le _, rfl, rfl, by omega, by omega⟩
          case round =>
            obtain ⟨k2, u3, hk, rfl, rfl, v0, v1⟩ := hrel
            by_cases hlt : k2 < n2
            · rcases h2 with e | ⟨b, f, rfl, h2⟩
              · omega
              have g0 := h2 k2 hlt
              by_cases hs : (x2 k2).size ≤ 1048576
              · by_cases hs2 : u3 + (x2 k2).size ≤ 1048576
                · go_wp2
                  go_round
                  case rel => exact ⟨k2 + 1, _, hlt, by go_num, rfl, by omega, by omega⟩
                  case measure => simp [intOf]; omega
                · go_wp2
                  go_ret
                  exact .no
              · go_wp2
                go_ret
                exact .no
            · go_wp2
              go_ret
              exact .yes trivial
end Go.Proofs.Qxb6000409a
