import Derived.Test.Qxb6600053aProg
import Derived.WalkKit
import Derived.WalkLawsBesides
import Derived.WalkSpells
import Derived.BigQuiet
import Derived.Lib.SliceRun
namespace Go.Proofs.Qxb6600053a
open Go.RowKit

/-- how two floats stand to each other, as the walk spells it -/
abbrev fo (x y : Nat) : Option Ordering := FloatKind.f64.format.order x y

/-- for every i below n -/
def allB (n : Nat) (p : Nat → Bool) : Bool := (List.range n).all p
theorem allB_iff {n : Nat} {p : Nat → Bool} : allB n p = true ↔ ∀ i, i < n → p i = true := by
  simp [allB]
theorem allB_zero (p : Nat → Bool) : allB 0 p = true := rfl
theorem allB_succ {n : Nat} {p : Nat → Bool} (h : allB n p = true) (hp : p n = true) : allB (n + 1) p = true := by
  rw [allB_iff] at *
  intro i hi
  by_cases h' : i = n
  · exact h' ▸ hp
  · exact h i (by omega)
theorem allB_false {n k : Nat} {p : Nat → Bool} (hk : k < n) (hp : p k = false) : allB n p = false := by
  rw [Bool.eq_false_iff]
  intro h
  rw [allB_iff.1 h k hk] at hp
  exact Bool.noConfusion hp
theorem allB_at {n k : Nat} {p : Nat → Bool} (h : allB k p = true) (h1 : k ≤ n) (h2 : ¬ k < n) : allB n p = true := by
  have : k = n := by omega
  exact this ▸ h

theorem ret_bool {a b : Bool} (h : a = b) : Ending.returned (.bool a) = .returned (.bool b) := by rw [h]

/-- the cells at ⟨b, f⟩ hold the floats x 0 .. x (n - 1) -/
def FAt (w : World) (b f n : Nat) (x : Nat → Nat) : Prop := ∀ i, i < n → w.cell? ⟨b, f + i, none⟩ = some (.float .f64 (x i))

theorem FAt.drewN {w : World} {b f n m : Nat} {x : Nat → Nat} (h : FAt w b f n x) : FAt (w.drewN m) b f n x := fun i hi => by
  have := h i hi
  simpa using this
theorem FAt.below {w w' : World} {B b f n : Nat} {x : Nat → Nat} (h : FAt w b f n x) (hb : Below B w w') (hB : b < B) : FAt w' b f n x :=
  fun i hi => (hb.cell (p := ⟨b, f + i, none⟩) hB).trans (h i hi)

/-! ### wellFormed -/
def wfP (x y : Nat → Nat) (i : Nat) : Bool := fo (x i) (y i) == some .lt

set_option maxHeartbeats 400000 in
theorem wf_some (b0 f0 b1 f1 n c0 c1 : Nat) (x y : Nat → Nat) (w : World) (hn : n ≤ 1048576) (h0 : FAt w b0 f0 n x) (h1 : FAt w b1 f1 n y) :
    Calls Try.prog 16 #[.slice (some ⟨b0, f0, none⟩) n c0, .slice (some ⟨b1, f1, none⟩) n c1] w fun e w' => e = .returned (.bool (allB n (wfP x y))) ∧ ∃ m, w' = w.drewN m := by
  go_enter Try.func16, Try.ntmps16
  go_wp2
  go_loopw [5] (fun i wr => ∃ k m : Nat, k ≤ n ∧ i = .int .i64 k ∧ wr = w.drewN m ∧ Hid (allB k (wfP x y) = true)) (fun i _ => n - (intOf i).toNat)
  case atStart => exact ⟨0, 0, Nat.zero_le _, rfl, rfl, allB_zero _⟩
  case round =>
    obtain ⟨k, m, hk, rfl, rfl, HB⟩ := hrel
    by_cases hlt : k < n
    · have g0 := h0 k hlt
      have g1 := h1 k hlt
      go_wp2
      go_quiet (fail)
      go_wp2
      · go_ret
        exact ⟨ret_bool (allB_false hlt (by unfold wfP; simp_all)).symm, _, by rw [World.drewN_drewN]⟩
      · go_roundw
        case rel => exact ⟨k + 1, _, hlt, by go_num, rfl, allB_succ HB.out (by unfold wfP; simp_all)⟩
        case measure => simp [intOf]; omega
    · go_wp2
      go_ret
      exact ⟨ret_bool (allB_at HB.out hk hlt).symm, _, rfl⟩

theorem wf_zero (a0 a1 : Option Addr) (c0 c1 : Nat) (w : World) :
    Calls Try.prog 16 #[.slice a0 0 c0, .slice a1 0 c1] w fun e w' => e = .returned (.bool true) ∧ w' = w := by
  go_enter Try.func16, Try.ntmps16
  go_wp2
  refine wp_loop_rounds 1 ?_
  rw [rounds_succ]
  go_wp2
  go_ret
  exact ⟨rfl, rfl⟩

/-! ### holds -/
def hoP (lo hi p : Nat → Nat) (i : Nat) : Bool := (fo (lo i) (p i) == some .lt || fo (lo i) (p i) == some .eq) && fo (p i) (hi i) == some .lt

theorem ho_zero (a0 a1 a2 : Option Addr) (c0 c1 c2 : Nat) (w : World) :
    Calls Try.prog 18 #[.slice a0 0 c0, .slice a1 0 c1, .slice a2 0 c2] w fun e w' => e = .returned (.bool true) ∧ w' = w := by
  go_enter Try.func18, Try.ntmps18
  go_wp2
  refine wp_loop_rounds 1 ?_
  rw [rounds_succ]
  go_wp2
  go_ret
  exact ⟨rfl, rfl⟩

set_option maxHeartbeats 800000 in
theorem ho_some (b0 f0 b1 f1 b2 f2 n c0 c1 c2 : Nat) (lo hi p : Nat → Nat) (w : World) (hn : n ≤ 1048576) (h0 : FAt w b0 f0 n lo) (h1 : FAt w b1 f1 n hi) (h2 : FAt w b2 f2 n p) :
    Calls Try.prog 18 #[.slice (some ⟨b0, f0, none⟩) n c0, .slice (some ⟨b1, f1, none⟩) n c1, .slice (some ⟨b2, f2, none⟩) n c2] w fun e w' => e = .returned (.bool (allB n (hoP lo hi p))) ∧ ∃ m, w' = w.drewN m := by
  go_enter Try.func18, Try.ntmps18
  go_wp2
  go_loopw [7] (fun i wr => ∃ k m : Nat, k ≤ n ∧ i = .int .i64 k ∧ wr = w.drewN m ∧ Hid (allB k (hoP lo hi p) = true)) (fun i _ => n - (intOf i).toNat)
  case atStart => exact ⟨0, 0, Nat.zero_le _, rfl, rfl, allB_zero _⟩
  case round =>
    obtain ⟨k, m, hk, rfl, rfl, HB⟩ := hrel
    by_cases hlt : k < n
    · have g0 := h0 k hlt
      have g1 := h1 k hlt
      have g2 := h2 k hlt
      obtain ⟨o, ho⟩ : ∃ o, fo (lo k) (p k) = o := ⟨_, rfl⟩
      rcases o with _ | _ | _ | _
      all_goals
        go_wp2
        go_quiet (fail)
        go_wp2
        all_goals first
          | (go_ret; exact ⟨ret_bool (allB_false hlt (by unfold hoP; simp_all)).symm, _, by rw [World.drewN_drewN]⟩)
          | (go_roundw
             case rel => exact ⟨k + 1, _, hlt, by go_num, rfl, allB_succ HB.out (by unfold hoP; simp_all)⟩
             case measure => simp [intOf]; omega)
    · go_wp2
      go_ret
      exact ⟨ret_bool (allB_at HB.out hk hlt).symm, _, rfl⟩

/-! ### cloneFs -/
theorem info30 : (Try.prog.info? 30).map (fun i => (i.zero, i.size, i.bytes)) = some (some (.float .f64 0), 1, 8) := by kernel_rfl

theorem run_store_f (P : Program) (w : World) (a : Addr) (x : Nat) (m : Mode) : (store a (.float .f64 x) m).run P w = stored P w a (.float .f64 x) m := run_store P w a _ m rfl
attribute [local go_sem] run_store_f

/-- the block: the first k of x, then zeros -/
def fillA (x : Nat → Nat) (n k : Nat) : Array Value := Array.ofFn fun i : Fin n => Value.float .f64 (if i.val < k then x i.val else 0)

theorem fillA_get (x : Nat → Nat) (n k i : Nat) (hi : i < n) : (fillA x n k)[i]? = some (.float .f64 (if i < k then x i else 0)) := by
  simp [fillA, hi]
theorem fillA_none (x : Nat → Nat) (n k i : Nat) (hi : ¬ i < n) : (fillA x n k)[i]? = none := by
  simp [fillA]; omega
theorem fillA_zero (x : Nat → Nat) (n : Nat) : madeCells #[.float .f64 0] n = fillA x n 0 := by
  apply Array.ext
  · simp [fillA, madeCells]
  · intro i h1 h2
    simp [fillA, madeCells, Nat.mod_one]
theorem fillA_at (x : Nat → Nat) (n k : Nat) (hk : k < n) : (fillA x n k)[k]? = some (.float .f64 0) := by
  rw [fillA_get x n k k hk]; simp
theorem fillA_succ (x : Nat → Nat) (n k : Nat) (hk : k < n) : (fillA x n k).setIfInBounds k (.float .f64 (x k)) = fillA x n (k+1) := by
  apply Array.ext_getElem?
  intro i
  rw [Array.getElem?_setIfInBounds]
  by_cases hi : i < n
  · rw [fillA_get x n (k+1) i hi]
    by_cases e : k = i
    · subst e; simp [fillA, hk]
    · simp only [e, if_false]
      rw [fillA_get x n k i hi]
      have : (i < k) = (i < k + 1) := propext (by omega)
      simp only [this]
  · rw [fillA_none x n (k+1) i hi, fillA_none x n k i hi, if_neg (by omega)]

theorem make22 (n : Nat) (hn : n ≤ 1048576) (w : World) : (Instr.makeSlice 22 (.int .i64 n) (.int .i64 n)).run Try.prog w = .ok (.slice (some ⟨w.heap.size, 0, none⟩) n n) (w.alloc (.cells (madeCells #[.float .f64 0] n) 30)) := by
  obtain ⟨i0, hi, hz0, hz1, hz2⟩ := info_parts info30
  have h := run_make w (P := Try.prog) 22 30 i0 (.float .f64 0) Try.underlying22 hi hz0 .i64 .i64 n n (by omega) (by omega) (by rw [hz2]; omega) (by omega)
  rw [hz1] at h
  simpa [Value.cells] using h

set_option maxHeartbeats 400000 in
theorem clone_alloc (b f n c : Nat) (x : Nat → Nat) (w : World) (hn : n ≤ 1048576) (hbs : b < w.heap.size) (h0 : FAt w b f n x) :
    Calls Try.prog 12 #[.slice (some ⟨b, f, none⟩) n c] w fun e w' => e = .returned (.slice (some ⟨w.heap.size, 0, none⟩) n n) ∧ w' = w.alloc (.cells (fillA x n n) 30) := by
  have q22 : ∀ (w : World) (a : Option Addr) (n c n' c' : Nat), (binOp .eql 22 (.slice a n c) (.slice none n' c')).run Try.prog w = .ok (.bool a.isNone) w := fun w a n c n' c' => Lib.run_eql_slice_nil w _ _ a n c n' c' Try.underlying22
  have hmk := make22 n hn
  rw [fillA_zero x] at hmk
  go_enter Try.func12, Try.ntmps12
  go_wp2
  go_loopw [4] (fun i wr => ∃ k : Nat, k ≤ n ∧ i = .int .i64 k ∧ wr = w.alloc (.cells (fillA x n k) 30)) (fun i _ => n - (intOf i).toNat)
  case atStart => exact ⟨0, Nat.zero_le _, rfl, rfl⟩
  case round =>
    obtain ⟨k, hk, rfl, rfl⟩ := hrel
    clear hmk
    by_cases hlt : k < n
    · have g0 := h0 k hlt
      have g1 := fillA_at x n k hlt
      have HS : Hid ((fillA x n k).setIfInBounds k (.float .f64 (x k)) = fillA x n (k+1)) := fillA_succ x n k hlt
      go_wp2
      go_roundw
      case rel => exact ⟨k + 1, hlt, by go_num, by rw [← HS.out]⟩
      case measure => simp [intOf]; omega
    · obtain rfl : k = n := by omega
      go_wp2
      go_ret
      exact ⟨rfl, rfl⟩

/-- what is known of the new row; the old memory stands -/
theorem clone_some (b f n c : Nat) (x : Nat → Nat) (w : World) (hn : n ≤ 1048576) (hbs : b < w.heap.size) (h0 : FAt w b f n x) :
    Calls Try.prog 12 #[.slice (some ⟨b, f, none⟩) n c] w fun e w' => e = .returned (.slice (some ⟨w.heap.size, 0, none⟩) n n) ∧ FAt w' w.heap.size 0 n x ∧ Below w.heap.size w w' ∧ w'.heap.size = w.heap.size + 1 := by
  refine (clone_alloc b f n c x w hn hbs h0).mono ?_
  rintro e w' ⟨rfl, rfl⟩
  refine ⟨rfl, fun i hi => ?_, (Below.refl _ _).alloc (Nat.le_refl _) _, by simp⟩
  rw [World.cell?_alloc_at _ _ _ _ rfl, Nat.zero_add, fillA_get x n n i hi, if_pos hi]

/-- no element -/
theorem clone_zero (a : Option Addr) (c : Nat) (w : World) :
    Calls Try.prog 12 #[.slice a 0 c] w fun e w' => (∃ a' c', e = .returned (.slice a' 0 c')) ∧ Below w.heap.size w w' := by
  have q22 : ∀ (w : World) (a : Option Addr) (n c n' c' : Nat), (binOp .eql 22 (.slice a n c) (.slice none n' c')).run Try.prog w = .ok (.bool a.isNone) w := fun w a n c n' c' => Lib.run_eql_slice_nil w _ _ a n c n' c' Try.underlying22
  have hmk := make22 0 (by omega)
  have hmk' : ∀ w, (Instr.makeSlice 22 (.int .i64 0) (.int .i64 0)).run Try.prog w = .ok (.slice (some ⟨w.heap.size, 0, none⟩) 0 0) (w.alloc (.cells (madeCells #[.float .f64 0] 0) 30)) := hmk
  clear hmk
  rcases a with _ | ad
  · go_enter Try.func12, Try.ntmps12
    go_wp2
    go_ret
    exact ⟨⟨_, _, rfl⟩, Below.refl _ _⟩
  · go_enter Try.func12, Try.ntmps12
    go_wp2
    refine wp_loop_rounds 1 ?_
    rw [rounds_succ]
    go_wp2
    go_ret
    exact ⟨⟨_, _, rfl⟩, (Below.refl _ _).alloc (Nat.le_refl _) _⟩
end Go.Proofs.Qxb6600053a
