import Derived.Test.Qxb6000409aD
namespace Go.Proofs.Qxb6000409a
open Go.RowKit

theorem info3 : (Try.prog.info? 3).map (fun i => (i.zero, i.size, i.bytes)) = some (some (.int .i64 0), 1, 8) := by kernel_rfl

/-- the block: the first k of x, then zeros -/
def fillI (x : Nat → Int) (n k : Nat) : Array Value := Array.ofFn fun i : Fin n => Value.int .i64 (if i.val < k then x i.val else 0)
theorem fillI_get (x : Nat → Int) (n k i : Nat) (hi : i < n) : (fillI x n k)[i]? = some (.int .i64 (if i < k then x i else 0)) := by
  simp [fillI, hi]
theorem fillI_none (x : Nat → Int) (n k i : Nat) (hi : ¬ i < n) : (fillI x n k)[i]? = none := by
  simp [fillI]; omega
theorem fillI_zero (x : Nat → Int) (n : Nat) : madeCells #[.int .i64 0] n = fillI x n 0 := by
  apply Array.ext
  · simp [fillI, madeCells]
  · intro i h1 h2
    simp [fillI, madeCells, Nat.mod_one]
theorem fillI_at (x : Nat → Int) (n k : Nat) (hk : k < n) : (fillI x n k)[k]? = some (.int .i64 0) := by
  rw [fillI_get x n k k hk]; simp
theorem fillI_succ (x : Nat → Int) (n k : Nat) (hk : k < n) : (fillI x n k).setIfInBounds k (.int .i64 (x k)) = fillI x n (k+1) := by
  apply Array.ext_getElem?
  intro i
  rw [Array.getElem?_setIfInBounds]
  by_cases hi : i < n
  · rw [fillI_get x n (k+1) i hi]
    by_cases e : k = i
    · subst e; simp [fillI, hk]
    · simp only [e, if_false]
      rw [fillI_get x n k i hi]
      have : (i < k) = (i < k + 1) := propext (by omega)
      simp only [this]
  · rw [fillI_none x n (k+1) i hi, fillI_none x n k i hi, if_neg (by omega)]
theorem fillI_full (x : Nat → Int) (n i : Nat) (hi : i < n) : (fillI x n n)[i]? = some (.int .i64 (x i)) := by
  rw [fillI_get x n n i hi, if_pos hi]

theorem make25 (n : Nat) (hn : n ≤ 1048576) (w : World) : (Instr.makeSlice 25 (.int .i64 n) (.int .i64 n)).run Try.prog w = .ok (.slice (some ⟨w.heap.size, 0, none⟩) n n) (w.alloc (.cells (madeCells #[.int .i64 0] n) 3)) := by
  obtain ⟨i0, hi, hz0, hz1, hz2⟩ := info_parts info3
  have h := run_make w (P := Try.prog) 25 3 i0 (.int .i64 0) Try.underlying25 hi hz0 .i64 .i64 n n (by omega) (by omega) (by rw [hz2]; omega) (by omega)
  rw [hz1] at h
  simpa [Value.cells] using h

/-- nil and false, or a new row of y and true, and Q -/
def Rows2 (w : World) (m : Nat) (y : Nat → Int) (Q : Prop) (e : Ending) (w' : World) : Prop :=
  Below w.heap.size w w' ∧ (e = .returned (.tuple #[.slice none 0 0, .bool false]) ∨
    (e = .returned (.tuple #[.slice (some ⟨w.heap.size, 0, none⟩) m m, .bool true]) ∧ IAt w' w.heap.size 0 m y ∧ w'.heap.size = w.heap.size + 1 ∧ Q))
theorem below_new (w : World) (o : Obj) : Below w.heap.size w (w.alloc o) := (Below.refl _ _).alloc (Nat.le_refl _) _
theorem Rows2.no {w w' : World} {m : Nat} {y : Nat → Int} {Q : Prop} (h : Below w.heap.size w w') : Rows2 w m y Q (.returned (.tuple #[.slice none 0 0, .bool false])) w' := ⟨h, .inl rfl⟩
theorem Rows2.yes {w : World} {m q : Nat} {y : Nat → Int} {Q : Prop} (h : Q) :
    Rows2 w m y Q (.returned (.tuple #[.slice (some ⟨w.heap.size, 0, none⟩) m m, .bool true])) ((w.alloc (.cells (fillI y m m) 3)).drewN q) := by
  refine ⟨below_drewN (below_new _ _) q, .inr ⟨rfl, fun i hi => ?_, by simp, h⟩⟩
  rw [World.cell?_drewN, World.cell?_alloc_at _ _ _ _ rfl, Nat.zero_add, fillI_full y m i hi]

/-! ### treeB1DstIndex -/
set_option maxHeartbeats 400000 in
theorem dst_any (a a2 : Option Addr) (n c m c2 : Nat) (G X : Nat → ByteArray) (w : World) (hn : n ≤ 256) (hm : m ≤ 256) (hG : SRow w a n G) (hX : SRow w a2 m X) :
    Calls Try.prog 19 #[.slice a n c, .slice a2 m c2] w (Rows2 w m (fun i => idx n G (X i)) (0 < m ∧ ∀ i, i < m → 0 ≤ idx n G (X i))) := by
  by_cases h0 : m = 0
  · subst h0
    go_enter Try.func19, Try.ntmps19
    go_wp2
    go_ret2
    exact .no (Below.refl _ _)
  rcases hX with e | ⟨b2, f2, rfl, hX⟩
  · exact absurd e h0
  have hbs := hX.lt (by omega)
  have hmk := make25 m (by omega)
  rw [fillI_zero (fun i => idx n G (X i))] at hmk
  have hm0 : ((m : Int) == 0) = false := by simp; omega
  go_enter Try.func19, Try.ntmps19
  go_wp2
  go_loopw [7] (fun i wr => ∃ k : Nat, k ≤ m ∧ i = .int .i64 k ∧ wr = w.alloc (.cells (fillI (fun i => idx n G (X i)) m k) 3) ∧ Hid (∀ i, i < k → 0 ≤ idx n G (X i))) (fun i _ => m - (intOf i).toNat)
  case atStart => exact ⟨0, Nat.zero_le _, rfl, rfl, fun i h => absurd h (by omega)⟩
  case round =>
    obtain ⟨k, hk, rfl, rfl, HB⟩ := hrel
    clear hmk
    by_cases hlt : k < m
    · have g0 := hX k hlt
      have g1 := fillI_at (fun i => idx n G (X i)) m k hlt
      have HS := hide (fillI_succ (fun i => idx n G (X i)) m k hlt)
      go_wp2_with fail
      refine (idx_any _ n _ G (X k) _ (by omega) (hG.below (below_new _ _))).mono ?_
      rintro e w'' ⟨rfl, rfl⟩
      by_cases hneg : idx n G (X k) < 0
      · go_wp2
        go_ret2
        exact .no (below_new _ _)
      · have HN : Hid (0 ≤ idx n G (X k)) := by show 0 ≤ _; omega
        go_wp2
        go_roundw
        case rel => exact ⟨k + 1, hlt, by go_num, by rw [← HS.out], fun i hi => by
            by_cases e' : i = k
            · subst e'; exact HN.out
            · exact HB.out i (by omega)⟩
        case measure => simp [intOf]; omega
    · obtain rfl : k = m := by omega
      go_wp2
      go_ret2
      exact Rows2.yes (q := 0) ⟨by omega, HB.out⟩
end Go.Proofs.Qxb6000409a
