import Derived.Test.Qxb6600057aD
namespace Go.Proofs.Qxb6600057a
open Go.RowKit

/-- the call answers a bool that says P, and leaves the world -/
def Ans (P : Prop) (w : World) (e : Ending) (w' : World) : Prop := ∃ t : Bool, e = .returned (.bool t) ∧ (t = true ↔ P) ∧ w' = w
theorem Ans.mk {P : Prop} {w : World} (t : Bool) (h : t = true ↔ P) : Ans P w (.returned (.bool t)) w := ⟨t, rfl, h, rfl⟩
theorem Ans.yes {P : Prop} {w : World} (h : P) : Ans P w (.returned (.bool true)) w := .mk true ⟨fun _ => h, fun _ => rfl⟩
theorem Ans.no {P : Prop} {w : World} (h : ¬ P) : Ans P w (.returned (.bool false)) w := .mk false ⟨fun e => (by cases e), fun p => absurd p h⟩
/-- the same; numbers may have been drawn -/
def AnsD (P : Prop) (w : World) (e : Ending) (w' : World) : Prop := ∃ t : Bool, e = .returned (.bool t) ∧ (t = true ↔ P) ∧ ∃ m, w' = w.drewN m
theorem AnsD.yes {P : Prop} {w : World} {m : Nat} (h : P) : AnsD P w (.returned (.bool true)) (w.drewN m) := ⟨true, rfl, ⟨fun _ => h, fun _ => rfl⟩, m, rfl⟩
theorem AnsD.no {P : Prop} {w : World} {m : Nat} (h : ¬ P) : AnsD P w (.returned (.bool false)) (w.drewN m) := ⟨false, rfl, ⟨fun e => (by cases e), fun p => absurd p h⟩, m, rfl⟩
/-- some bool -/
def Som (w : World) (e : Ending) (w' : World) : Prop := ∃ t : Bool, e = .returned (.bool t) ∧ w' = w
theorem Som.mk {w : World} (t : Bool) : Som w (.returned (.bool t)) w := ⟨t, rfl, rfl⟩
/-- a bool; true says P -/
def Imp (P : Prop) (w : World) (e : Ending) (w' : World) : Prop := ∃ t : Bool, e = .returned (.bool t) ∧ (t = true → P) ∧ w' = w
theorem Imp.yes {P : Prop} {w : World} (h : P) : Imp P w (.returned (.bool true)) w := ⟨true, rfl, fun _ => h, rfl⟩
theorem Imp.no {P : Prop} {w : World} : Imp P w (.returned (.bool false)) w := ⟨false, rfl, fun h => (by cases h), rfl⟩

/-! ### zzBytes of the three laws -/
/-- the strings are not long -/
def Sz (n : Nat) (x : Nat → ByteArray) : Prop := ∀ i, i < n → (x i).size ≤ 1048576
theorem Sz.zero (x : Nat → ByteArray) : Sz 0 x := fun i h => absurd h (by omega)
theorem Sz.succ {n : Nat} {x : Nat → ByteArray} (h : Sz n x) (h1 : (x n).size ≤ 1048576) : Sz (n + 1) x := fun i hi => by
  by_cases e : i = n
  · exact e ▸ h1
  · exact h i (by omega)
set_option maxHeartbeats 800000 in
theorem bytes6 (a : Option Addr) (n c : Nat) (x : Nat → ByteArray) (t : ByteArray) (w : World) (h0 : SRow w a n x) : Calls Try.prog 6 #[.slice a n c, .string t] w (Imp (t.size ≤ 1048576 ∧ Sz n x) w) := by
  by_cases hn0 : n ≤ 1048576
  case neg =>
    go_enter Try.func6, Try.ntmps6
    go_wp2
    go_ret
    exact .no
  go_enter Try.func6, Try.ntmps6
  go_wp2
  go_loop [5, 6] (fun t i => ∃ (k : Nat) (u : Int), k ≤ n ∧ i = .int .i64 k ∧ t = .int .i64 u ∧ 0 ≤ u ∧ u ≤ 1048576 ∧ Sz k x) (fun _ i => n - (intOf i).toNat)
  case atStart => exact ⟨0, n, Nat.zero_le _, rfl, rfl, by omega, by omega, Sz.zero _⟩
  case round =>
    obtain ⟨k, u, hk, rfl, rfl, u0, u1, S0⟩ := hrel
    by_cases hlt : k < n
    · rcases h0 with e | ⟨b, f, rfl, h0⟩
      · omega
      have g0 := h0 k hlt
      by_cases hs : (x k).size ≤ 1048576
      · by_cases hs2 : u + (x k).size ≤ 1048576
        · go_wp2
          go_round
          case rel => exact ⟨k + 1, _, hlt, by go_num, rfl, by omega, by omega, S0.succ hs⟩
          case measure => simp [intOf]; omega
        · go_wp2
          go_ret
          exact .no
      · go_wp2
        go_ret
        exact .no
    · by_cases hs : t.size ≤ 1048576
      · by_cases hs2 : u + t.size ≤ 1048576
        · go_wp2
          go_ret
          obtain rfl : k = n := by omega
          exact .yes S0
        · go_wp2
          go_ret
          exact .no
      · go_wp2
        go_ret
        exact .no

set_option maxHeartbeats 800000 in
theorem bytes12 (a : Option Addr) (n c : Nat) (x : Nat → ByteArray) (t : ByteArray) (w : World) (h0 : SRow w a n x) : Calls Try.prog 12 #[.slice a n c, .string t] w (Imp (t.size ≤ 1048576 ∧ Sz n x) w) := by
  by_cases hn0 : n ≤ 1048576
  case neg =>
    go_enter Try.func12, Try.ntmps12
    go_wp2
    go_ret
    exact .no
  go_enter Try.func12, Try.ntmps12
  go_wp2
  go_loop [5, 6] (fun t i => ∃ (k : Nat) (u : Int), k ≤ n ∧ i = .int .i64 k ∧ t = .int .i64 u ∧ 0 ≤ u ∧ u ≤ 1048576 ∧ Sz k x) (fun _ i => n - (intOf i).toNat)
  case atStart => exact ⟨0, n, Nat.zero_le _, rfl, rfl, by omega, by omega, Sz.zero _⟩
  case round =>
    obtain ⟨k, u, hk, rfl, rfl, u0, u1, S0⟩ := hrel
    by_cases hlt : k < n
    · rcases h0 with e | ⟨b, f, rfl, h0⟩
      · omega
      have g0 := h0 k hlt
      by_cases hs : (x k).size ≤ 1048576
      · by_cases hs2 : u + (x k).size ≤ 1048576
        · go_wp2
          go_round
          case rel => exact ⟨k + 1, _, hlt, by go_num, rfl, by omega, by omega, S0.succ hs⟩
          case measure => simp [intOf]; omega
        · go_wp2
          go_ret
          exact .no
      · go_wp2
        go_ret
        exact .no
    · by_cases hs : t.size ≤ 1048576
      · by_cases hs2 : u + t.size ≤ 1048576
        · go_wp2
          go_ret
          obtain rfl : k = n := by omega
          exact .yes S0
        · go_wp2
          go_ret
          exact .no
      · go_wp2
        go_ret
        exact .no

set_option maxHeartbeats 800000 in
theorem bytes14 (a : Option Addr) (n c : Nat) (x : Nat → ByteArray) (t : ByteArray) (w : World) (h0 : SRow w a n x) : Calls Try.prog 14 #[.slice a n c, .string t] w (Imp (t.size ≤ 1048576 ∧ Sz n x) w) := by
  by_cases hn0 : n ≤ 1048576
  case neg =>
    go_enter Try.func14, Try.ntmps14
    go_wp2
    go_ret
    exact .no
  go_enter Try.func14, Try.ntmps14
  go_wp2
  go_loop [5, 6] (fun t i => ∃ (k : Nat) (u : Int), k ≤ n ∧ i = .int .i64 k ∧ t = .int .i64 u ∧ 0 ≤ u ∧ u ≤ 1048576 ∧ Sz k x) (fun _ i => n - (intOf i).toNat)
  case atStart => exact ⟨0, n, Nat.zero_le _, rfl, rfl, by omega, by omega, Sz.zero _⟩
  case round =>
    obtain ⟨k, u, hk, rfl, rfl, u0, u1, S0⟩ := hrel
    by_cases hlt : k < n
    · rcases h0 with e | ⟨b, f, rfl, h0⟩
      · omega
      have g0 := h0 k hlt
      by_cases hs : (x k).size ≤ 1048576
      · by_cases hs2 : u + (x k).size ≤ 1048576
        · go_wp2
          go_round
          case rel => exact ⟨k + 1, _, hlt, by go_num, rfl, by omega, by omega, S0.succ hs⟩
          case measure => simp [intOf]; omega
        · go_wp2
          go_ret
          exact .no
      · go_wp2
        go_ret
        exact .no
    · by_cases hs : t.size ≤ 1048576
      · by_cases hs2 : u + t.size ≤ 1048576
        · go_wp2
          go_ret
          obtain rfl : k = n := by omega
          exact .yes S0
        · go_wp2
          go_ret
          exact .no
      · go_wp2
        go_ret
        exact .no

/-! ### fitsBytesStoreB1: some bool -/
set_option maxHeartbeats 800000 in
theorem fits7 (a : Option Addr) (n c : Nat) (x : Nat → ByteArray) (t : ByteArray) (w : World) (hn : n ≤ 65536) (ht : t.size ≤ 1048576) (hx : Sz n x) (h0 : SRow w a n x) : Calls Try.prog 7 #[.slice a n c, .string t] w (Som w) := by
  by_cases hn1 : 16 * n + t.size ≤ 1048576
  case neg =>
    go_enter Try.func7, Try.ntmps7
    go_wp2
    go_ret
    exact .mk _
  go_enter Try.func7, Try.ntmps7
  go_wp2
  go_loop [5, 6] (fun t i => ∃ (k : Nat) (u : Int), k ≤ n ∧ i = .int .i64 k ∧ t = .int .i64 u ∧ 0 ≤ u ∧ u ≤ 1048576) (fun _ i => n - (intOf i).toNat)
  case atStart => exact ⟨0, (16 * n + t.size : Nat), Nat.zero_le _, rfl, by go_num, by omega, by omega⟩
  case round =>
    obtain ⟨k, u, hk, rfl, rfl, u0, u1⟩ := hrel
    by_cases hlt : k < n
    · rcases h0 with e | ⟨b, f, rfl, h0⟩
      · omega
      have g0 := h0 k hlt
      have hs := hx k hlt
      by_cases hs2 : u + (x k).size ≤ 1048576
      · go_wp2
        go_round
        case rel => exact ⟨k + 1, _, hlt, by go_num, rfl, by omega, by omega⟩
        case measure => simp [intOf]; omega
      · go_wp2
        go_ret
        exact .mk _
    · go_wp2
      go_ret
      exact .mk _

/-! ### sortedAscStoreB1, strictlyAscStoreB1 -/
set_option maxHeartbeats 800000 in
theorem sorted8 (a : Option Addr) (n c : Nat) (x : Nat → ByteArray) (w : World) (hn : n ≤ 1048576) (h0 : SRow w a n x) : Calls Try.prog 8 #[.slice a n c] w (AnsD (Asc n x) w) := by
  go_enter Try.func8, Try.ntmps8
  go_wp2
  go_loopw [3] (fun i wr => ∃ k m : Nat, (k = 0 ∨ k < n) ∧ i = .int .i64 (k + 1 : Nat) ∧ wr = w.drewN m ∧ Hid (∀ i, i < k → slt (x (i + 1)) (x i) = false)) (fun i _ => n - (intOf i).toNat)
  case atStart => exact ⟨0, 0, .inl rfl, rfl, rfl, fun i h => absurd h (by omega)⟩
  case round =>
    obtain ⟨k, m, hk, rfl, rfl, HB⟩ := hrel
    by_cases hlt : k + 1 < n
    · rcases h0 with e | ⟨b, f, rfl, h0⟩
      · omega
      have g0 := h0 k (by omega)
      have g1 := h0 (k + 1) hlt
      have ek : ((k + 1 : Nat) : Int) - 1 = k := by omega
      rcases Bool.eq_false_or_eq_true (slt (x (k + 1)) (x k)) with ht | ht
      · have HT := hide ht
        have ht' : Op.bytesLess (x (k + 1)).toList (x k).toList = true := ht
        clear ht
        go_wp2
        go_quiet (fail)
        go_wp2
        go_ret
        rw [World.drewN_drewN]
        exact .no fun h => by have := h k hlt; rw [HT.out] at this; cases this
      · have HT := hide ht
        have ht' : Op.bytesLess (x (k + 1)).toList (x k).toList = false := ht
        clear ht
        go_wp2
        go_quiet (fail)
        go_wp2
        go_roundw
        case rel => exact ⟨k + 1, _, .inr hlt, by go_num, rfl, fun i hi => by
            by_cases e : i = k
            · subst e; exact HT.out
            · exact HB.out i (by omega)⟩
        case measure => simp [intOf]; omega
    · go_wp2
      go_ret
      exact .yes fun i hi => HB.out i (by omega)
/-- strictly sorted -/
def Strict (n : Nat) (x : Nat → ByteArray) : Prop := ∀ i, i + 1 < n → slt (x i) (x (i + 1)) = true
theorem Strict.asc {n : Nat} {x : Nat → ByteArray} (h : Strict n x) : Asc n x := fun i hi => by
  rcases Bool.eq_false_or_eq_true (slt (x (i + 1)) (x i)) with t | t
  · have := slt_trans t (h i hi)
    rw [slt_irrefl] at this; cases this
  · exact t
theorem Strict.lt {n : Nat} {x : Nat → ByteArray} (h : Strict n x) {i j : Nat} (hij : i < j) (hj : j < n) : slt (x i) (x j) = true := by
  induction j with
  | zero => omega
  | succ j ih =>
    by_cases e : i = j
    · subst e; exact h i hj
    · exact slt_trans (ih (by omega) (by omega)) (h j hj)
set_option maxHeartbeats 800000 in
theorem strict15 (a : Option Addr) (n c : Nat) (x : Nat → ByteArray) (w : World) (hn : n ≤ 1048576) (h0 : SRow w a n x) : Calls Try.prog 15 #[.slice a n c] w (AnsD (Strict n x) w) := by
  go_enter Try.func15, Try.ntmps15
  go_wp2
  go_loopw [3] (fun i wr => ∃ k m : Nat, (k = 0 ∨ k < n) ∧ i = .int .i64 (k + 1 : Nat) ∧ wr = w.drewN m ∧ Hid (∀ i, i < k → slt (x i) (x (i + 1)) = true)) (fun i _ => n - (intOf i).toNat)
  case atStart => exact ⟨0, 0, .inl rfl, rfl, rfl, fun i h => absurd h (by omega)⟩
  case round =>
    obtain ⟨k, m, hk, rfl, rfl, HB⟩ := hrel
    by_cases hlt : k + 1 < n
    · rcases h0 with e | ⟨b, f, rfl, h0⟩
      · omega
      have g0 := h0 k (by omega)
      have g1 := h0 (k + 1) hlt
      have ek : ((k + 1 : Nat) : Int) - 1 = k := by omega
      rcases Bool.eq_false_or_eq_true (slt (x k) (x (k + 1))) with ht | ht
      · have HT := hide ht
        have ht' : Op.bytesLess (x k).toList (x (k + 1)).toList = true := ht
        clear ht
        go_wp2
        go_quiet (fail)
        go_wp2
        go_roundw
        case rel => exact ⟨k + 1, _, .inr hlt, by go_num, rfl, fun i hi => by
            by_cases e : i = k
            · subst e; exact HT.out
            · exact HB.out i (by omega)⟩
        case measure => simp [intOf]; omega
      · have HT := hide ht
        have ht' : Op.bytesLess (x k).toList (x (k + 1)).toList = false := ht
        clear ht
        go_wp2
        go_quiet (fail)
        go_wp2
        go_ret
        rw [World.drewN_drewN]
        exact .no fun h => by have := h k hlt; rw [HT.out] at this; cases this
    · go_wp2
      go_ret
      exact .yes fun i hi => HB.out i (by omega)

/-! ### equalStringsStoreB1, containsStringStoreB1 -/
def Eqs (n m : Nat) (x y : Nat → ByteArray) : Prop := n = m ∧ ∀ i, i < n → x i = y i
set_option maxHeartbeats 800000 in
theorem equal11 (a a' : Option Addr) (n c n' c' : Nat) (x y : Nat → ByteArray) (w : World) (hn : n ≤ 1048576) (hn' : n' ≤ 1048577) (h0 : SRow w a n x) (h1 : SRow w a' n' y) : Calls Try.prog 11 #[.slice a n c, .slice a' n' c'] w (AnsD (Eqs n n' x y) w) := by
  by_cases hne : n = n'
  case neg =>
    go_enter Try.func11, Try.ntmps11
    go_wp2
    go_ret
    exact .no (m := 0) fun h => hne h.1
  subst hne
  go_enter Try.func11, Try.ntmps11
  go_wp2
  go_loopw [5] (fun i wr => ∃ k m : Nat, k ≤ n ∧ i = .int .i64 k ∧ wr = w.drewN m ∧ Hid (∀ i, i < k → x i = y i)) (fun i _ => n - (intOf i).toNat)
  case atStart => exact ⟨0, 0, Nat.zero_le _, rfl, rfl, fun i h => absurd h (by omega)⟩
  case round =>
    obtain ⟨k, m, hk, rfl, rfl, HB⟩ := hrel
    by_cases hlt : k < n
    · rcases h0 with e | ⟨b, f, rfl, h0⟩
      · omega
      rcases h1 with e | ⟨b1, f1, rfl, h1⟩
      · omega
      have g0 := h0 k hlt
      have g1 := h1 k hlt
      rcases Bool.eq_false_or_eq_true (seq (x k) (y k)) with ht | ht
      · have HT := hide (seq_iff.1 ht)
        have ht' : ((x k).toList == (y k).toList) = true := ht
        clear ht
        go_wp2
        go_quiet (fail)
        go_wp2
        go_roundw
        case rel => exact ⟨k + 1, _, hlt, by go_num, rfl, fun i hi => by
            by_cases e : i = k
            · subst e; exact HT.out
            · exact HB.out i (by omega)⟩
        case measure => simp [intOf]; omega
      · have HT := hide (seq_false.1 ht)
        have ht' : ((x k).toList == (y k).toList) = false := ht
        clear ht
        go_wp2
        go_quiet (fail)
        go_wp2
        go_ret
        rw [World.drewN_drewN]
        exact .no fun h => HT.out (h.2 k hlt)
    · go_wp2
      go_ret
      exact .yes ⟨rfl, fun i hi => HB.out i (by omega)⟩
set_option maxHeartbeats 800000 in
theorem contains13 (a : Option Addr) (n c : Nat) (x : Nat → ByteArray) (t : ByteArray) (w : World) (hn : n ≤ 1048576) (h0 : SRow w a n x) : Calls Try.prog 13 #[.slice a n c, .string t] w (Ans (∃ k, k < n ∧ x k = t) w) := by
  go_enter Try.func13, Try.ntmps13
  go_wp2
  go_loop [5] (fun i => ∃ k : Nat, k ≤ n ∧ i = .int .i64 k ∧ Hid (∀ i, i < k → x i ≠ t)) (fun i => n - (intOf i).toNat)
  case atStart => exact ⟨0, Nat.zero_le _, rfl, fun i h => absurd h (by omega)⟩
  case round =>
    obtain ⟨k, hk, rfl, HB⟩ := hrel
    by_cases hlt : k < n
    · rcases h0 with e | ⟨b, f, rfl, h0⟩
      · omega
      have g0 := h0 k hlt
      rcases Bool.eq_false_or_eq_true (seq (x k) t) with ht | ht
      · have HT := hide (seq_iff.1 ht)
        have ht' : ((x k).toList == t.toList) = true := ht
        clear ht
        go_wp2
        go_ret
        exact .yes ⟨k, hlt, HT.out⟩
      · have HT := hide (seq_false.1 ht)
        have ht' : ((x k).toList == t.toList) = false := ht
        clear ht
        go_wp2
        go_round
        case rel => exact ⟨k + 1, hlt, by go_num, fun i hi => by
            by_cases e : i = k
            · subst e; exact HT.out
            · exact HB.out i (by omega)⟩
        case measure => simp [intOf]; omega
    · go_wp2
      go_ret
      exact .no fun ⟨i, hi, e⟩ => HB.out i (by omega) e

/-! ### copyStringsStoreB1 -/
theorem run_store_s (P : Program) (w : World) (a : Addr) (x : ByteArray) (m : Mode) : (store a (.string x) m).run P w = stored P w a (.string x) m := run_store P w a _ m rfl
attribute [local go_sem] run_store_s
/-- the block: the first k of x, then empty strings -/
def fillA (x : Nat → ByteArray) (n k : Nat) : Array Value := Array.ofFn fun i : Fin n => Value.string (if i.val < k then x i.val else e0)
theorem fillA_get (x : Nat → ByteArray) (n k i : Nat) (hi : i < n) : (fillA x n k)[i]? = some (.string (if i < k then x i else e0)) := by
  simp [fillA, hi]
theorem fillA_none (x : Nat → ByteArray) (n k i : Nat) (hi : ¬ i < n) : (fillA x n k)[i]? = none := by
  simp [fillA]; omega
theorem fillA_zero (x : Nat → ByteArray) (n : Nat) : madeCells #[.string e0] n = fillA x n 0 := by
  apply Array.ext
  · simp [fillA, madeCells]
  · intro i h1 h2
    simp [fillA, madeCells, Nat.mod_one]
theorem fillA_at (x : Nat → ByteArray) (n k : Nat) (hk : k < n) : (fillA x n k)[k]? = some (.string e0) := by
  rw [fillA_get x n k k hk]; simp
theorem fillA_succ (x : Nat → ByteArray) (n k : Nat) (hk : k < n) : (fillA x n k).setIfInBounds k (.string (x k)) = fillA x n (k+1) := by
  apply Array.ext_getElem?
  intro i
  rw [Array.getElem?_setIfInBounds]
  by_cases hi : i < n
  · rw [fillA_get x n (k+1) i hi]
    by_cases e : k = i
    · subst e; simp [fillA, hk]
    · simp only [e, if_false]
      rw [fillA_get x n k i hi]
      have : (i < k) = (i < k + 1) := propext (by omega)
      simp only [this]
  · rw [fillA_none x n (k+1) i hi, fillA_none x n k i hi, if_neg (by omega)]
theorem make22 (n : Nat) (hn : n ≤ 1048577) (w : World) : (Instr.makeSlice 22 (.int .i64 n) (.int .i64 n)).run Try.prog w = .ok (.slice (some ⟨w.heap.size, 0, none⟩) n n) (w.alloc (.cells (madeCells #[.string e0] n) 9)) := by
  obtain ⟨i0, hi, hz0, hz1, hz2⟩ := info_parts info9
  have h := run_make w (P := Try.prog) 22 9 i0 (.string e0) Try.underlying22 hi hz0 .i64 .i64 n n (by omega) (by omega) (by rw [hz2]; omega) (by omega)
  rw [hz1] at h
  simpa [Value.cells] using h
set_option maxHeartbeats 400000 in
theorem copy_alloc (b f n c : Nat) (x : Nat → ByteArray) (w : World) (hn : n ≤ 1048577) (hbs : b < w.heap.size) (h0 : SAt w b f n x) :
    Calls Try.prog 9 #[.slice (some ⟨b, f, none⟩) n c] w fun e w' => e = .returned (.slice (some ⟨w.heap.size, 0, none⟩) n n) ∧ w' = w.alloc (.cells (fillA x n n) 9) := by
  have q22 : ∀ (w : World) (a : Option Addr) (n c n' c' : Nat), (binOp .eql 22 (.slice a n c) (.slice none n' c')).run Try.prog w = .ok (.bool a.isNone) w := fun w a n c n' c' => Lib.run_eql_slice_nil w _ _ a n c n' c' Try.underlying22
  have hmk := make22 n hn
  rw [fillA_zero x] at hmk
  go_enter Try.func9, Try.ntmps9
  go_wp2
  go_loopw [4] (fun i wr => ∃ k : Nat, k ≤ n ∧ i = .int .i64 k ∧ wr = w.alloc (.cells (fillA x n k) 9)) (fun i _ => n - (intOf i).toNat)
  case atStart => exact ⟨0, Nat.zero_le _, rfl, rfl⟩
  case round =>
    obtain ⟨k, hk, rfl, rfl⟩ := hrel
    clear hmk
    by_cases hlt : k < n
    · have g0 := h0 k hlt
      have g1 := fillA_at x n k hlt
      have HS : Hid ((fillA x n k).setIfInBounds k (.string (x k)) = fillA x n (k+1)) := fillA_succ x n k hlt
      go_wp2
      go_roundw
      case rel => exact ⟨k + 1, hlt, by go_num, by rw [← HS.out]⟩
      case measure => simp [intOf]; omega
    · obtain rfl : k = n := by omega
      go_wp2
      go_ret
      exact ⟨rfl, rfl⟩
/-- a copy -/
def CpRes (n : Nat) (x : Nat → ByteArray) (w : World) (e : Ending) (w' : World) : Prop := ∃ a c, e = .returned (.slice a n c) ∧ n ≤ c ∧ SRow w' a n x ∧ Below w.heap.size w w'
theorem copy9 (a : Option Addr) (n c : Nat) (x : Nat → ByteArray) (w : World) (hn : n ≤ 1048577) (h0 : SRow w a n x) : Calls Try.prog 9 #[.slice a n c] w (CpRes n x w) := by
  by_cases h : n = 0
  · subst h
    have q22 : ∀ (w : World) (a : Option Addr) (n c n' c' : Nat), (binOp .eql 22 (.slice a n c) (.slice none n' c')).run Try.prog w = .ok (.bool a.isNone) w := fun w a n c n' c' => Lib.run_eql_slice_nil w _ _ a n c n' c' Try.underlying22
    have hmk := make22 0 (by omega)
    have hmk' : ∀ w, (Instr.makeSlice 22 (.int .i64 0) (.int .i64 0)).run Try.prog w = .ok (.slice (some ⟨w.heap.size, 0, none⟩) 0 0) (w.alloc (.cells (madeCells #[.string e0] 0) 9)) := hmk
    clear hmk
    rcases a with _ | ad
    · go_enter Try.func9, Try.ntmps9
      go_wp2
      go_ret
      exact ⟨_, _, rfl, Nat.zero_le _, .inl rfl, Below.refl _ _⟩
    · go_enter Try.func9, Try.ntmps9
      go_wp2
      refine wp_loop_rounds 1 ?_
      rw [rounds_succ]
      go_wp2
      go_ret
      exact ⟨_, _, rfl, Nat.zero_le _, .inl rfl, (Below.refl _ _).alloc (Nat.le_refl _) _⟩
  · rcases h0 with e | ⟨b, f, rfl, h0⟩
    · exact absurd e h
    refine (copy_alloc b f n c x w hn (h0.lt (by omega)) h0).mono ?_
    rintro e w' ⟨rfl, rfl⟩
    refine ⟨_, _, rfl, Nat.le_refl _, .inr ⟨_, _, rfl, fun i hi => ?_⟩, (Below.refl _ _).alloc (Nat.le_refl _) _⟩
    rw [World.cell?_alloc_at _ _ _ _ rfl, Nat.zero_add, fillA_get x n n i hi, if_pos hi]
end Go.Proofs.Qxb6600057a
