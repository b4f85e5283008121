import Derived.Test.Qxb6000409aL
namespace Go.Proofs.Qxb6000409a
open Go.RowKit Go.Maps

/-! ### zzBytes of the second law -/
set_option maxRecDepth 100000 in
set_option maxHeartbeats 1600000 in
theorem bytes25 (a0 a1 a2 : Option Addr) (n0 n1 n2 c0 c1 c2 : Nat) (x0 x1 x2 : Nat → ByteArray) (w : World) (h0 : SRow w a0 n0 x0) (h1 : SRow w a1 n1 x1) (h2 : SRow w a2 n2 x2) :
    Calls Try.prog 25 #[.slice a0 n0 c0, .slice a1 n1 c1, .slice a2 n2 c2] w (Imp (Sz n0 x0 ∧ Sz n1 x1) w) := by
  by_cases hn0 : n0 ≤ 1048576
  case neg =>
    go_enter Try.func25, Try.ntmps25
    go_wp2
    go_ret
    exact .no
  go_enter Try.func25, Try.ntmps25
  go_wp2
  go_loop [7, 8] (fun t i => ∃ (k : Nat) (u : Int), k ≤ n0 ∧ i = .int .i64 k ∧ t = .int .i64 u ∧ 0 ≤ u ∧ u ≤ 1048576 ∧ Sz k x0) (fun _ i => n0 - (intOf i).toNat)
  case atStart => exact ⟨0, n0, Nat.zero_le _, rfl, rfl, by omega, by omega, Sz.zero _⟩
  case round =>
    obtain ⟨k, u, hk, rfl, rfl, u0, u1, S0⟩ := hrel
    by_cases hlt : k < n0
    · rcases h0 with e | ⟨b, f, rfl, h0⟩
      · omega
      have g0 := h0 k hlt
      by_cases hs : (x0 k).size ≤ 1048576
      · by_cases hs2 : u + (x0 k).size ≤ 1048576
        · go_wp2
          go_round
          case rel => exact ⟨k + 1, _, hlt, by go_num, rfl, by omega, by omega, S0.succ hs⟩
          case measure => simp [intOf]; omega
        · go_wp2
          go_ret
          exact .no
      · go_wp2
        go_ret
        exact .no
    · by_cases hn1 : n1 ≤ 1048576
      case neg =>
        go_wp2
        go_ret
        exact .no
      by_cases hn1b : u + n1 ≤ 1048576
      case neg =>
        go_wp2
        go_ret
        exact .no
      go_wp2
      obtain rfl : k = n0 := by omega
      clear hk hlt h0
      go_loop [7, 9] (fun t i => ∃ (k : Nat) (u : Int), k ≤ n1 ∧ i = .int .i64 k ∧ t = .int .i64 u ∧ 0 ≤ u ∧ u ≤ 1048576 ∧ Sz k x1) (fun _ i => n1 - (intOf i).toNat)
      case atStart => exact ⟨0, _, Nat.zero_le _, rfl, rfl, by omega, by omega, Sz.zero _⟩
      case round =>
        obtain ⟨k1, u2, hk, rfl, rfl, v0, v1, S1⟩ := hrel
        by_cases hlt : k1 < n1
        · rcases h1 with e | ⟨b, f, rfl, h1⟩
          · omega
          have g0 := h1 k1 hlt
          by_cases hs : (x1 k1).size ≤ 1048576
          · by_cases hs2 : u2 + (x1 k1).size ≤ 1048576
            · go_wp2
              go_round
              case rel => exact ⟨k1 + 1, _, hlt, by go_num, rfl, by omega, by omega, S1.succ hs⟩
              case measure => simp [intOf]; omega
            · go_wp2
              go_ret
              exact .no
          · go_wp2
            go_ret
            exact .no
        · by_cases hn2 : n2 ≤ 1048576
          case neg =>
            go_wp2
            go_ret
            exact .no
          by_cases hn2b : u2 + n2 ≤ 1048576
          case neg =>
            go_wp2
            go_ret
            exact .no
          go_wp2
          obtain rfl : k1 = n1 := by omega
          clear hk hlt h1
          go_loop [7, 10] (fun t i => ∃ (k : Nat) (u : Int), k ≤ n2 ∧ i = .int .i64 k ∧ t = .int .i64 u ∧ 0 ≤ u ∧ u ≤ 1048576) (fun _ i => n2 - (intOf i).toNat)
          case atStart => exact ⟨0, _, Nat.zero_le _, rfl, rfl, by omega, by omega⟩
          case round =>
            obtain ⟨k2, u3, hk, rfl, rfl, v0, v1⟩ := hrel
            by_cases hlt : k2 < n2
            · rcases h2 with e | ⟨b, f, rfl, h2⟩
              · omega
              have g0 := h2 k2 hlt
              by_cases hs : (x2 k2).size ≤ 1048576
              · by_cases hs2 : u3 + (x2 k2).size ≤ 1048576
                · go_wp2
                  go_round
                  case rel => exact ⟨k2 + 1, _, hlt, by go_num, rfl, by omega, by omega⟩
                  case measure => simp [intOf]; omega
                · go_wp2
                  go_ret
                  exact .no
              · go_wp2
                go_ret
                exact .no
            · go_wp2
              go_ret
              exact .yes trivial

/-! ### treeB1DepthOf -/
set_option maxHeartbeats 400000 in
theorem depth_some (b f n c : Nat) (q : Nat → Int) (dep : Nat → Nat) (y : Nat) (w : World) (hn : n ≤ 256) (h0 : IAt w b f n q) (U : Up n q dep) (hy : y < n) :
    Calls Try.prog 27 #[.slice (some ⟨b, f, none⟩) n c, .int .i64 y] w fun e w' => e = .returned (.int .i64 (dep y)) ∧ w' = w := by
  have g0 := h0 y hy
  have e1 : q y = it q 1 y := by rw [it, if_neg (by omega), Int.toNat_natCast]; rfl
  rw [e1] at g0
  clear e1
  go_enter Try.func27, Try.ntmps27
  go_wp2
  go_loop [5, 6, 7] (fun d z s => ∃ k : Nat, k ≤ dep y ∧ s = .int .i64 k ∧ d = .int .i64 k ∧ z = .int .i64 (it q (k + 1) y)) (fun _ _ s => dep y - (intOf s).toNat)
  case atStart => exact ⟨0, Nat.zero_le _, rfl, rfl, rfl⟩
  case round =>
    obtain ⟨k, hk, rfl, rfl, rfl⟩ := hrel
    clear g0
    by_cases hd : dep y = k
    · have e := U.it_end (k + 1) y hy (by omega)
      rw [e]
      go_wp2
      go_ret
      exact ⟨rfl, rfl⟩
    · obtain ⟨z, hz, e, e2⟩ := U.it_in (k + 1) y hy (by omega)
      have hl := U.lim y hy
      have hs := it_succ q (k + 1) y
      rw [e, if_neg (by omega), Int.toNat_natCast] at hs
      rw [e]
      have g0 := h0 z hz
      have hz1 : ((z : Int) != -1) = true := by simp
      have hkn : k ≤ n := by omega
      have HS := hide hs
      clear hs e
      go_wp2
      go_round
      case rel => exact ⟨k + 1, by omega, by go_num, by go_num, by rw [HS.out]⟩
      case measure => simp [intOf]; omega

/-! ### treeB1InList, slices.Index, slices.Contains -/
def inl (n : Nat) (x : Nat → ByteArray) (g : ByteArray) : Bool := decide (0 ≤ idx n x g)
theorem inl_iff {n : Nat} {x : Nat → ByteArray} {g : ByteArray} : inl n x g = true ↔ ∃ i, i < n ∧ x i = g := by
  unfold inl idx
  rw [decide_eq_true_iff]
  rcases stepI_spec (fun i => seq (x i) g) n with ⟨h1, h2⟩ | ⟨s, h1, h2, h3, _⟩
  · rw [h1]
    exact ⟨fun h => absurd h (by omega), fun ⟨i, hi, e⟩ => absurd e (seq_false.1 (h2 i hi))⟩
  · rw [h1]
    exact ⟨fun _ => ⟨s, h2, seq_iff.1 h3⟩, fun _ => by omega⟩
theorem inl_false {n : Nat} {x : Nat → ByteArray} {g : ByteArray} : inl n x g = false ↔ ∀ i, i < n → x i ≠ g := by
  rw [Bool.eq_false_iff, ne_eq, inl_iff]
  exact ⟨fun h i hi e => h ⟨i, hi, e⟩, fun h ⟨i, hi, e⟩ => h i hi e⟩
theorem inlist_any (a : Option Addr) (n c : Nat) (x : Nat → ByteArray) (g : ByteArray) (w : World) (hn : n ≤ 1048576) (h0 : SRow w a n x) :
    Calls Try.prog 28 #[.slice a n c, .string g] w fun e w' => e = .returned (.bool (inl n x g)) ∧ w' = w := by
  go_enter Try.func28, Try.ntmps28
  go_wp2_with fail
  refine (idx_any _ n _ x g _ hn h0).mono ?_
  rintro e w' ⟨rfl, rfl⟩
  go_wp2
  go_ret
  exact ⟨rfl, rfl⟩
set_option maxHeartbeats 400000 in
theorem index_any (a : Option Addr) (n c : Nat) (x : Nat → ByteArray) (g : ByteArray) (w : World) (hn : n ≤ 1048576) (h0 : SRow w a n x) :
    Calls Try.prog 34 #[.slice a n c, .string g] w fun e w' => e = .returned (.int .i64 (idx n x g)) ∧ w' = w := by
  go_enter Try.func34, Try.ntmps34
  go_wp2
  go_loop [8] (fun i => ∃ k : Nat, k ≤ n ∧ i = .int .i64 k ∧ Hid (∀ i, i < k → seq (x i) g = false)) (fun i => n - (intOf i).toNat)
  case atStart => exact ⟨0, Nat.zero_le _, rfl, fun i h => absurd h (by omega)⟩
  case round =>
    obtain ⟨k, hk, rfl, HB⟩ := hrel
    by_cases hlt : k < n
    · rcases h0 with e | ⟨b, f, rfl, h0⟩
      · omega
      have g0 := h0 k hlt
      rcases Bool.eq_false_or_eq_true (seq (x k) g) with t | t
      · have t' : (g.toList == (x k).toList) = true := by rw [seq_iff.1 t]; simp
        go_wp2
        go_ret
        exact ⟨ret_int (stepI_hit hlt t HB.out).symm, rfl⟩
      · have t' : (g.toList == (x k).toList) = false := seq_false.2 (fun e => seq_false.1 t e.symm)
        go_wp2
        go_round
        case rel =>
          exact ⟨k + 1, hlt, by go_num, fun i hi => by
            by_cases e : i = k
            · exact e ▸ t
            · exact HB.out i (by omega)⟩
        case measure => simp [intOf]; omega
    · go_wp2
      go_ret
      exact ⟨ret_int (stepI_miss (fun i hi => HB.out i (by omega))).symm, rfl⟩
theorem contains_any (a : Option Addr) (n c : Nat) (x : Nat → ByteArray) (g : ByteArray) (w : World) (hn : n ≤ 1048576) (h0 : SRow w a n x) :
    Calls Try.prog 33 #[.slice a n c, .string g] w fun e w' => e = .returned (.bool (inl n x g)) ∧ w' = w := by
  go_enter Try.func33, Try.ntmps33
  go_wp2_with fail
  refine (index_any _ n _ x g _ hn h0).mono ?_
  rintro e w' ⟨rfl, rfl⟩
  go_wp2
  go_ret
  exact ⟨rfl, rfl⟩

/-! ### treeB1Between -/
set_option maxHeartbeats 400000 in
theorem between_some (b f n c l x b2 f2 m c2 : Nat) (q : Nat → Int) (dep : Nat → Nat) (ix : Nat → Nat) (w : World) (hn : n ≤ 256) (h0 : IAt w b f n q) (U : Up n q dep)
    (hx : x < n) (hm : m ≤ 256) (h2 : IAt w b2 f2 m (fun i => ix i)) (hi : ∀ i, i < m → ix i < n) :
    Calls Try.prog 29 #[.slice (some ⟨b, f, none⟩) n c, .int .i64 l, .int .i64 x, .slice (some ⟨b2, f2, none⟩) m c2] w (Ans (x ≠ l ∧ Anc q l x ∧ ∃ i, i < m ∧ Anc q x (ix i)) w) := by
  by_cases hxl : x = l
  · subst hxl
    go_enter Try.func29, Try.ntmps29
    go_wp2
    go_ret
    exact .no fun h => h.1 rfl
  have hne : ((x : Int) == l) = false := by simp; omega
  have HL := hide hxl
  clear hxl
  go_enter Try.func29, Try.ntmps29
  go_wp2_with fail
  refine (under_some _ _ _ _ q dep l x _ hn h0 U hx).mono ?_
  rintro e w'' ⟨t, rfl, ht, rfl⟩
  cases t with
  | false =>
    have ht1 : Hid (¬ Anc q l x) := fun h => (by have := ht.2 h; cases this)
    clear ht
    go_wp2
    go_ret
    exact .no fun h => ht1.out h.2.1
  | true =>
    have ht1 : Hid (Anc q l x) := ht.1 rfl
    clear ht
    go_wp2
    go_loop [9] (fun i => ∃ k : Nat, k ≤ m ∧ i = .int .i64 k ∧ Hid (∀ i, i < k → ¬ Anc q x (ix i))) (fun s => m - (intOf s).toNat)
    case atStart => exact ⟨0, Nat.zero_le _, rfl, fun i h => absurd h (by omega)⟩
    case round =>
      obtain ⟨k, hk, rfl, HB⟩ := hrel
      by_cases hlt : k < m
      · have g0 := h2 k hlt
        go_wp2_with fail
        refine (under_some _ _ _ _ q dep x (ix k) _ hn h0 U (hi k hlt)).mono ?_
        rintro e w'' ⟨t, rfl, ht, rfl⟩
        cases t with
        | true =>
          have ht2 : Hid (Anc q x (ix k)) := ht.1 rfl
          clear ht
          go_wp2
          go_ret
          exact .yes ⟨HL.out, ht1.out, k, hlt, ht2.out⟩
        | false =>
          have ht2 : Hid (¬ Anc q x (ix k)) := fun h => (by have := ht.2 h; cases this)
          clear ht
          go_wp2
          go_round
          case rel => exact ⟨k + 1, hlt, by go_num, fun i hi => by
              by_cases e' : i = k
              · subst e'; exact ht2.out
              · exact HB.out i (by omega)⟩
          case measure => simp [intOf]; omega
      · go_wp2
        go_ret
        exact .no fun ⟨_, _, i, hi, h⟩ => HB.out i (by omega) h
end Go.Proofs.Qxb6000409a
