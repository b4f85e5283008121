import Derived.Test.Qxb6600057aA
namespace Go.Proofs.Qxb6600057a
open Go.RowKit

/-- the cells at ⟨b, f⟩ hold the strings x 0 .. x (n - 1) -/
def SAt (w : World) (b f n : Nat) (x : Nat → ByteArray) : Prop := ∀ i, i < n → w.cell? ⟨b, f + i, none⟩ = some (.string (x i))
/-- a slice of strings: empty, or its elements lie in a row -/
def SRow (w : World) (a : Option Addr) (n : Nat) (x : Nat → ByteArray) : Prop := n = 0 ∨ ∃ b f, a = some ⟨b, f, none⟩ ∧ SAt w b f n x
/-- the cells at ⟨b, f⟩ hold the ints x 0 .. x (n - 1) -/
def IAt (w : World) (b f n : Nat) (x : Nat → Int) : Prop := ∀ i, i < n → w.cell? ⟨b, f + i, none⟩ = some (.int .i64 (x i))
def IRow (w : World) (a : Option Addr) (n : Nat) (x : Nat → Int) : Prop := n = 0 ∨ ∃ b f, a = some ⟨b, f, none⟩ ∧ IAt w b f n x

theorem lt_of_cell {w : World} {b o : Nat} {v : Value} (h : w.cell? ⟨b, o, none⟩ = some v) : b < w.heap.size := by
  by_cases hb : b < w.heap.size
  · exact hb
  · unfold World.cell? at h
    have : w.heap[b]? = none := by simp; omega
    simp [this] at h
section
variable {w w' : World} {a : Option Addr} {b f n : Nat} {x : Nat → ByteArray} {y : Nat → Int}
theorem SAt.lt (h : SAt w b f n x) (hn : 0 < n) : b < w.heap.size := lt_of_cell (h 0 hn)
theorem IAt.lt (h : IAt w b f n y) (hn : 0 < n) : b < w.heap.size := lt_of_cell (h 0 hn)
theorem SAt.below (h : SAt w b f n x) (hb : Below w.heap.size w w') : SAt w' b f n x := fun i hi => (hb.cell (p := ⟨b, f + i, none⟩) (lt_of_cell (h i hi))).trans (h i hi)
theorem IAt.below (h : IAt w b f n y) (hb : Below w.heap.size w w') : IAt w' b f n y := fun i hi => (hb.cell (p := ⟨b, f + i, none⟩) (lt_of_cell (h i hi))).trans (h i hi)
theorem SRow.below (h : SRow w a n x) (hb : Below w.heap.size w w') : SRow w' a n x := by
  by_cases h0 : n = 0
  · exact .inl h0
  rcases h with h | ⟨b, f, rfl, h⟩
  · exact .inl h
  · exact .inr ⟨b, f, rfl, fun i hi => (hb.cell (p := ⟨b, f + i, none⟩) (lt_of_cell (h i hi))).trans (h i hi)⟩
theorem IRow.below (h : IRow w a n y) (hb : Below w.heap.size w w') : IRow w' a n y := by
  rcases h with h | ⟨b, f, rfl, h⟩
  · exact .inl h
  · exact .inr ⟨b, f, rfl, fun i hi => (hb.cell (p := ⟨b, f + i, none⟩) (lt_of_cell (h i hi))).trans (h i hi)⟩
end

/-! ### the first of which ms holds; -1: none -/
def stepI (ms : Nat → Bool) : Nat → Int
  | 0 => -1
  | k + 1 => if stepI ms k < 0 then (if ms k then (k : Int) else -1) else stepI ms k
theorem stepI_spec (ms : Nat → Bool) : ∀ k : Nat, (stepI ms k = -1 ∧ ∀ i, i < k → ms i = false) ∨ ∃ s : Nat, stepI ms k = s ∧ s < k ∧ ms s = true ∧ ∀ i, i < s → ms i = false
  | 0 => .inl ⟨rfl, fun i h => absurd h (by omega)⟩
  | k + 1 => by
    rcases stepI_spec ms k with ⟨h1, h2⟩ | ⟨s, h1, h2, h3, h4⟩
    · by_cases hm : ms k = true
      · exact .inr ⟨k, by simp [stepI, h1, hm], by omega, hm, h2⟩
      · have hm' : ms k = false := by simpa using hm
        refine .inl ⟨by simp [stepI, h1, hm'], fun i hi => ?_⟩
        by_cases e : i = k
        · exact e ▸ hm'
        · exact h2 i (by omega)
    · refine .inr ⟨s, ?_, by omega, h3, h4⟩
      simp only [stepI, h1]
      rw [if_neg (by omega)]
theorem stepI_hit {ms : Nat → Bool} {n k : Nat} (hk : k < n) (hm : ms k = true) (h : ∀ i, i < k → ms i = false) : stepI ms n = k := by
  rcases stepI_spec ms n with ⟨_, h2⟩ | ⟨s, h1, h2, h3, h4⟩
  · rw [h2 k hk] at hm; cases hm
  · rw [h1]
    have : s = k := by
      rcases Nat.lt_trichotomy s k with e | e | e
      · rw [h s e] at h3; cases h3
      · exact e
      · rw [h4 k e] at hm; cases hm
    rw [this]
theorem stepI_miss {ms : Nat → Bool} {n : Nat} (h : ∀ i, i < n → ms i = false) : stepI ms n = -1 := by
  rcases stepI_spec ms n with ⟨h1, _⟩ | ⟨s, _, h2, h3, _⟩
  · exact h1
  · rw [h s h2] at h3; cases h3

theorem ret_int {a b : Int} (h : a = b) : Ending.returned (.int .i64 a) = .returned (.int .i64 b) := by rw [h]
theorem ret_bool {a b : Bool} (h : a = b) : Ending.returned (.bool a) = .returned (.bool b) := by rw [h]


/-! ### cmp.isNaN, slices.isNaN, cmp.Less -/
theorem nan22 (x : ByteArray) (w : World) : Calls Try.prog 22 #[.string x] w fun e w' => e = .returned (.bool false) ∧ w' = w := by
  go_enter Try.func22, Try.ntmps22
  go_wp2
  go_ret
  exact ⟨by simp, rfl⟩
theorem nan21 (x : ByteArray) (w : World) : Calls Try.prog 21 #[.string x] w fun e w' => e = .returned (.bool false) ∧ w' = w := by
  go_enter Try.func21, Try.ntmps21
  go_wp2
  go_ret
  exact ⟨by simp, rfl⟩
theorem less20 (x y : ByteArray) (w : World) : Calls Try.prog 20 #[.string x, .string y] w fun e w' => e = .returned (.bool (slt x y)) ∧ w' = w := by
  go_enter Try.func20, Try.ntmps20
  go_wp2_with (go_at_call 22; refine (nan22 _ _).mono ?_; rintro e w' ⟨rfl, rfl⟩)
  go_ret
  exact ⟨rfl, rfl⟩

/-! ### slices.BinarySearch over a sorted row -/
/-- sorted, as the laws test it -/
def Asc (n : Nat) (x : Nat → ByteArray) : Prop := ∀ i, i + 1 < n → slt (x (i + 1)) (x i) = false
theorem Asc.le {n : Nat} {x : Nat → ByteArray} (h : Asc n x) {i j : Nat} (hij : i ≤ j) (hj : j < n) : slt (x j) (x i) = false := by
  induction j with
  | zero => have : i = 0 := by omega
            subst this; exact slt_irrefl _
  | succ j ih =>
    by_cases e : i = j + 1
    · subst e; exact slt_irrefl _
    · have h1 := ih (by omega) (by omega)
      have h2 := h j hj
      rcases Bool.eq_false_or_eq_true (slt (x (j + 1)) (x i)) with t | t
      · have := slt_of_le h2 t
        rw [this] at h1; cases h1
      · exact t
/-- p is the place of t in x: what is ahead of it is less, what stands behind it is not -/
structure Place (n : Nat) (x : Nat → ByteArray) (t : ByteArray) (p : Nat) : Prop where
  le : p ≤ n
  less : ∀ k, k < p → slt (x k) t = true
  not : ∀ k, p ≤ k → k < n → slt (x k) t = false
def found (n : Nat) (x : Nat → ByteArray) (t : ByteArray) (p : Nat) : Bool := decide (p < n) && seq (x p) t
def BsRes (n : Nat) (x : Nat → ByteArray) (t : ByteArray) (w : World) (e : Ending) (w' : World) : Prop :=
  ∃ p : Nat, Place n x t p ∧ e = .returned (.tuple #[.int .i64 p, .bool (found n x t p)]) ∧ w' = w

set_option maxHeartbeats 400000 in
theorem bs_any (a : Option Addr) (n c : Nat) (x : Nat → ByteArray) (t : ByteArray) (w : World) (hn : n ≤ 1048576) (h0 : SRow w a n x) (hs : Asc n x) :
    Calls Try.prog 17 #[.slice a n c, .string t] w (BsRes n x t w) := by
  have HS := hide hs
  clear hs
  go_enter Try.func17, Try.ntmps17
  go_wp2
  go_loop [7, 8] (fun i j => ∃ p q : Nat, p ≤ q ∧ q ≤ n ∧ i = .int .i64 p ∧ j = .int .i64 q ∧ Hid (∀ k, k < p → slt (x k) t = true) ∧ Hid (∀ k, q ≤ k → k < n → slt (x k) t = false)) (fun i j => (intOf j).toNat - (intOf i).toNat)
  case atStart => exact ⟨0, n, Nat.zero_le _, Nat.le_refl _, rfl, rfl, fun k h => absurd h (by omega), fun k h h' => absurd h (by omega)⟩
  case round =>
    obtain ⟨p, q, hpq, hq, rfl, rfl, HB, HC⟩ := hrel
    by_cases hlt : p < q
    · rcases h0 with e | ⟨b, f, rfl, h0⟩
      · omega
      have g0 := h0 ((p + q) / 2) (by omega)
      obtain ⟨h, eh⟩ : ∃ h, (p + q) / 2 = h := ⟨_, rfl⟩
      have hh1 : p ≤ h := by omega
      have hh2 : h < q := by omega
      have HE := hide eh
      clear eh
      go_wp2_with fail
      refine (less20 _ _ _).mono ?_
      rintro e w ⟨rfl, rfl⟩
      rcases Bool.eq_false_or_eq_true (slt (x ((p + q) / 2)) t) with ht | ht
      · have HT : Hid (slt (x h) t = true) := by show _ = _; rw [← HE.out]; exact ht
        go_wp2
        go_round
        case rel => exact ⟨h + 1, q, by omega, hq, by rw [← HE.out]; go_num, rfl, fun k hk => by
            by_cases e : k = h
            · subst e; exact HT.out
            · exact slt_of_le (HS.out.le (i := k) (j := h) (by omega) (by omega)) HT.out, HC⟩
        case measure => simp [intOf]; omega
      · have HT : Hid (slt (x h) t = false) := by show _ = _; rw [← HE.out]; exact ht
        go_wp2
        go_round
        case rel => exact ⟨p, h, by omega, by omega, rfl, by rw [← HE.out]; rfl, HB, fun k hk hk2 => by
            rcases Bool.eq_false_or_eq_true (slt (x k) t) with t1 | t1
            · have := slt_of_le (HS.out.le (i := h) (j := k) hk hk2) t1
              rw [HT.out] at this; cases this
            · exact t1⟩
        case measure => simp [intOf]; omega
    · obtain rfl : p = q := by omega
      by_cases hpn : p < n
      · rcases h0 with e | ⟨b, f, rfl, h0⟩
        · omega
        have g0 := h0 p hpn
        rcases Bool.eq_false_or_eq_true (seq (x p) t) with ht | ht
        · have ht' : ((x p).toList == t.toList) = true := ht
          have HR : Hid (found n x t p = true) := by show _ = _; simp [found, hpn, ht]
          clear ht
          go_wp2
          go_ret2
          exact ⟨p, ⟨hq, HB.out, HC.out⟩, by rw [HR.out]; rfl, rfl⟩
        · have ht' : ((x p).toList == t.toList) = false := ht
          have HR : Hid (found n x t p = false) := by show _ = _; simp [found, ht]
          clear ht
          go_wp2_with (go_at_call 21; refine (nan21 _ _).mono ?_; rintro e w ⟨rfl, rfl⟩)
          go_ret2
          exact ⟨p, ⟨hq, HB.out, HC.out⟩, by rw [HR.out]; rfl, rfl⟩
      · have HR : Hid (found n x t p = false) := by show _ = _; simp [found, hpn]
        go_wp2
        go_ret2
        exact ⟨p, ⟨hq, HB.out, HC.out⟩, by rw [HR.out]; rfl, rfl⟩
end Go.Proofs.Qxb6600057a
