import Derived.Test.Qxb6000409aA
namespace Go.Proofs.Qxb6000409a
open Go.RowKit

/-! ### strings -/
/-- equality as the walk spells it -/
def seq (a b : ByteArray) : Bool := a.toList == b.toList
theorem toList_inj {a b : ByteArray} (h : a.toList = b.toList) : a = b := by
  rw [ByteArray.toList_eq, ByteArray.toList_eq] at h
  exact ByteArray.ext (Array.ext' h)
theorem seq_iff {a b : ByteArray} : seq a b = true ↔ a = b := by
  unfold seq
  rw [beq_iff_eq]
  exact ⟨toList_inj, fun h => by rw [h]⟩
theorem seq_self (a : ByteArray) : seq a a = true := seq_iff.2 rfl
theorem seq_false {a b : ByteArray} : seq a b = false ↔ a ≠ b := by
  rw [Bool.eq_false_iff, ne_eq, seq_iff]

/-- the cells at ⟨b, f⟩ hold the strings x 0 .. x (n - 1) -/
def SAt (w : World) (b f n : Nat) (x : Nat → ByteArray) : Prop := ∀ i, i < n → w.cell? ⟨b, f + i, none⟩ = some (.string (x i))
/-- a slice of strings: empty, or its elements lie in a row -/
def SRow (w : World) (a : Option Addr) (n : Nat) (x : Nat → ByteArray) : Prop := n = 0 ∨ ∃ b f, a = some ⟨b, f, none⟩ ∧ SAt w b f n x
/-- the cells at ⟨b, f⟩ hold the ints x 0 .. x (n - 1) -/
def IAt (w : World) (b f n : Nat) (x : Nat → Int) : Prop := ∀ i, i < n → w.cell? ⟨b, f + i, none⟩ = some (.int .i64 (x i))
def IRow (w : World) (a : Option Addr) (n : Nat) (x : Nat → Int) : Prop := n = 0 ∨ ∃ b f, a = some ⟨b, f, none⟩ ∧ IAt w b f n x

theorem lt_of_cell {w : World} {b o : Nat} {v : Value} (h : w.cell? ⟨b, o, none⟩ = some v) : b < w.heap.size := by
  by_cases hb : b < w.heap.size
  · exact hb
  · unfold World.cell? at h
    have : w.heap[b]? = none := by simp; omega
    simp [this] at h
section
variable {w w' : World} {a : Option Addr} {b f n : Nat} {x : Nat → ByteArray} {y : Nat → Int}
theorem SAt.lt (h : SAt w b f n x) (hn : 0 < n) : b < w.heap.size := lt_of_cell (h 0 hn)
theorem IAt.lt (h : IAt w b f n y) (hn : 0 < n) : b < w.heap.size := lt_of_cell (h 0 hn)
theorem SAt.below (h : SAt w b f n x) (hb : Below w.heap.size w w') : SAt w' b f n x := fun i hi => (hb.cell (p := ⟨b, f + i, none⟩) (lt_of_cell (h i hi))).trans (h i hi)
theorem IAt.below (h : IAt w b f n y) (hb : Below w.heap.size w w') : IAt w' b f n y := fun i hi => (hb.cell (p := ⟨b, f + i, none⟩) (lt_of_cell (h i hi))).trans (h i hi)
theorem SRow.below (h : SRow w a n x) (hb : Below w.heap.size w w') : SRow w' a n x := by
  by_cases h0 : n = 0
  · exact .inl h0
  rcases h with h | ⟨b, f, rfl, h⟩
  · exact .inl h
  · exact .inr ⟨b, f, rfl, fun i hi => (hb.cell (p := ⟨b, f + i, none⟩) (lt_of_cell (h i hi))).trans (h i hi)⟩
theorem IRow.below (h : IRow w a n y) (hb : Below w.heap.size w w') : IRow w' a n y := by
  rcases h with h | ⟨b, f, rfl, h⟩
  · exact .inl h
  · exact .inr ⟨b, f, rfl, fun i hi => (hb.cell (p := ⟨b, f + i, none⟩) (lt_of_cell (h i hi))).trans (h i hi)⟩
end

/-! ### the first of which ms holds; -1: none -/
def stepI (ms : Nat → Bool) : Nat → Int
  | 0 => -1
  | k + 1 => if stepI ms k < 0 then (if ms k then (k : Int) else -1) else stepI ms k
theorem stepI_spec (ms : Nat → Bool) : ∀ k : Nat, (stepI ms k = -1 ∧ ∀ i, i < k → ms i = false) ∨ ∃ s : Nat, stepI ms k = s ∧ s < k ∧ ms s = true ∧ ∀ i, i < s → ms i = false
  | 0 => .inl ⟨rfl, fun i h => absurd h (by omega)⟩
  | k + 1 => by
    rcases stepI_spec ms k with ⟨h1, h2⟩ | ⟨s, h1, h2, h3, h4⟩
    · by_cases hm : ms k = true
      · exact .inr ⟨k, by simp [stepI, h1, hm], by omega, hm, h2⟩
      · have hm' : ms k = false := by simpa using hm
        refine .inl ⟨by simp [stepI, h1, hm'], fun i hi => ?_⟩
        by_cases e : i = k
        · exact e ▸ hm'
        · exact h2 i (by omega)
    · refine .inr ⟨s, ?_, by omega, h3, h4⟩
      simp only [stepI, h1]
      rw [if_neg (by omega)]
theorem stepI_hit {ms : Nat → Bool} {n k : Nat} (hk : k < n) (hm : ms k = true) (h : ∀ i, i < k → ms i = false) : stepI ms n = k := by
  rcases stepI_spec ms n with ⟨_, h2⟩ | ⟨s, h1, h2, h3, h4⟩
  · rw [h2 k hk] at hm; cases hm
  · rw [h1]
    have : s = k := by
      rcases Nat.lt_trichotomy s k with e | e | e
      · rw [h s e] at h3; cases h3
      · exact e
      · rw [h4 k e] at hm; cases hm
    rw [this]
theorem stepI_miss {ms : Nat → Bool} {n : Nat} (h : ∀ i, i < n → ms i = false) : stepI ms n = -1 := by
  rcases stepI_spec ms n with ⟨h1, _⟩ | ⟨s, _, h2, h3, _⟩
  · exact h1
  · rw [h s h2] at h3; cases h3

theorem ret_int {a b : Int} (h : a = b) : Ending.returned (.int .i64 a) = .returned (.int .i64 b) := by rw [h]
theorem ret_bool {a b : Bool} (h : a = b) : Ending.returned (.bool a) = .returned (.bool b) := by rw [h]

/-! ### treeB1IndexOf -/
/-- the place of g among the first n of x -/
def idx (n : Nat) (x : Nat → ByteArray) (g : ByteArray) : Int := stepI (fun i => seq (x i) g) n

set_option maxHeartbeats 400000 in
theorem idx_some (b f n c : Nat) (x : Nat → ByteArray) (g : ByteArray) (w : World) (hn : n ≤ 1048576) (h0 : SAt w b f n x) :
    Calls Try.prog 21 #[.slice (some ⟨b, f, none⟩) n c, .string g] w fun e w' => e = .returned (.int .i64 (idx n x g)) ∧ w' = w := by
  go_enter Try.func21, Try.ntmps21
  go_wp2
  go_loop [5] (fun i => ∃ k : Nat, k ≤ n ∧ i = .int .i64 k ∧ Hid (∀ i, i < k → seq (x i) g = false)) (fun i => n - (intOf i).toNat)
  case atStart => exact ⟨0, Nat.zero_le _, rfl, fun i h => absurd h (by omega)⟩
  case round =>
    obtain ⟨k, hk, rfl, HB⟩ := hrel
    by_cases hlt : k < n
    · have g0 := h0 k hlt
      go_wp2
      · go_ret
        exact ⟨ret_int (stepI_hit hlt (by assumption) HB.out).symm, rfl⟩
      · go_round
        case rel =>
          have hne : seq (x k) g = false := by assumption
          exact ⟨k + 1, hlt, by go_num, fun i hi => by
            by_cases e : i = k
            · exact e ▸ hne
            · exact HB.out i (by omega)⟩
        case measure => simp [intOf]; omega
    · go_wp2
      go_ret
      exact ⟨ret_int (stepI_miss (fun i hi => HB.out i (by omega))).symm, rfl⟩

theorem idx_any (a : Option Addr) (n c : Nat) (x : Nat → ByteArray) (g : ByteArray) (w : World) (hn : n ≤ 1048576) (h0 : SRow w a n x) :
    Calls Try.prog 21 #[.slice a n c, .string g] w fun e w' => e = .returned (.int .i64 (idx n x g)) ∧ w' = w := by
  rcases h0 with rfl | ⟨b, f, rfl, h⟩
  · go_enter Try.func21, Try.ntmps21
    go_wp2
    refine wp_loop_rounds 1 ?_
    rw [rounds_succ]
    go_wp2
    go_ret
    exact ⟨rfl, rfl⟩
  · exact idx_some b f n c x g w hn h

/-! ### treeB1BytesOf: some number, small -/
set_option maxHeartbeats 400000 in
theorem bytesOf_some (b f n c : Nat) (x : Nat → ByteArray) (w : World) (hn : n ≤ 1048576) (h0 : SAt w b f n x) :
    Calls Try.prog 11 #[.slice (some ⟨b, f, none⟩) n c] w fun e w' => ∃ t : Int, e = .returned (.int .i64 t) ∧ 0 ≤ t ∧ t ≤ 1048577 ∧ w' = w := by
  go_enter Try.func11, Try.ntmps11
  go_wp2
  go_loop [3, 4] (fun t i => ∃ (k : Nat) (u : Int), k ≤ n ∧ i = .int .i64 k ∧ t = .int .i64 u ∧ 0 ≤ u ∧ u ≤ 1048576) (fun _ i => n - (intOf i).toNat)
  case atStart => exact ⟨0, 0, Nat.zero_le _, rfl, rfl, by omega, by omega⟩
  case round =>
    obtain ⟨k, u, hk, rfl, rfl, u0, u1⟩ := hrel
    by_cases hlt : k < n
    · have g0 := h0 k hlt
      by_cases hs : (x k).size ≤ 1048576
      · by_cases hs2 : u + (16 + (x k).size) ≤ 1048576
        · go_wp2
          go_round
          case rel => exact ⟨k + 1, _, hlt, by go_num, rfl, by omega, by omega⟩
          case measure => simp [intOf]; omega
        · go_wp2
          go_ret
          exact ⟨_, rfl, by omega, by omega, rfl⟩
      · go_wp2
        go_ret
        exact ⟨_, rfl, by omega, by omega, rfl⟩
    · go_wp2
      go_ret
      exact ⟨_, rfl, by omega, by omega, rfl⟩
theorem bytesOf_any (a : Option Addr) (n c : Nat) (x : Nat → ByteArray) (w : World) (hn : n ≤ 1048576) (h0 : SRow w a n x) :
    Calls Try.prog 11 #[.slice a n c] w fun e w' => ∃ t : Int, e = .returned (.int .i64 t) ∧ 0 ≤ t ∧ t ≤ 1048577 ∧ w' = w := by
  rcases h0 with rfl | ⟨b, f, rfl, h⟩
  · go_enter Try.func11, Try.ntmps11
    go_wp2
    refine wp_loop_rounds 1 ?_
    rw [rounds_succ]
    go_wp2
    go_ret
    exact ⟨0, rfl, by omega, by omega, rfl⟩
  · exact bytesOf_some b f n c x w hn h
end Go.Proofs.Qxb6000409a
