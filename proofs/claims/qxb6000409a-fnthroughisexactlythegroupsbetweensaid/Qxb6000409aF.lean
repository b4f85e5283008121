import Derived.Test.Qxb6000409aE
namespace Go.Proofs.Qxb6000409a
open Go.RowKit

def e0 : ByteArray := ⟨#[]⟩
theorem e0_list : e0.toList = [] := by rw [ByteArray.toList_eq]; rfl
theorem set_new (w : World) (A : Array Value) (t : TypeId) (d i : Nat) (v : Value) :
    ((w.alloc (.cells A t)).drewN d).setCell ⟨w.heap.size, i, none⟩ v = (w.alloc (.cells (A.setIfInBounds i v) t)).drewN d := by
  rw [← World.setCell_alloc_new]; rfl
/-- the test for the empty string, as the walk spells it -/
def emp (s : ByteArray) : Bool := s.toList.isEmpty
theorem emp_iff {s : ByteArray} : emp s = true ↔ s = e0 := by
  unfold emp
  rw [List.isEmpty_iff]
  exact ⟨fun h => toList_inj (by rw [h, e0_list]), fun h => by rw [h, e0_list]⟩
theorem emp_false {s : ByteArray} : emp s = false ↔ s ≠ e0 := by rw [Bool.eq_false_iff, ne_eq, emp_iff]
/-- the parent's place -/
def up (n : Nat) (G P : Nat → ByteArray) (i : Nat) : Int := if emp (P i) then -1 else idx n G (P i)
theorem up_root {n : Nat} {G P : Nat → ByteArray} {i : Nat} (h : emp (P i) = true) : up n G P i = -1 := by simp [up, h]
theorem up_else {n : Nat} {G P : Nat → ByteArray} {i : Nat} (h : emp (P i) = false) : up n G P i = idx n G (P i) := by simp [up, h]

/-- what treeB1TreeIndex has checked -/
structure Good (n : Nat) (G P : Nat → ByteArray) : Prop where
  ne : ∀ i, i < n → emp (G i) = false
  apart : ∀ i, i < n → ∀ j, j < i → seq (G j) (G i) = false
  known : ∀ i, i < n → emp (P i) = false → 0 ≤ idx n G (P i)
  one : 0 < n → cnt (fun i => emp (P i)) n = 1
  ends : ∀ i : Nat, i < n → it (up n G P) (n + 1) i = -1
/-- the first k rounds of its first loop -/
structure Seen (n : Nat) (G P : Nat → ByteArray) (k : Nat) : Prop where
  ne : ∀ i, i < k → emp (G i) = false
  apart : ∀ i, i < k → ∀ j, j < i → seq (G j) (G i) = false
  known : ∀ i, i < k → emp (P i) = false → 0 ≤ idx n G (P i)
theorem Seen.succ {n : Nat} {G P : Nat → ByteArray} {k : Nat} (h : Seen n G P k) (h1 : emp (G k) = false) (h2 : ∀ j, j < k → seq (G j) (G k) = false) (h3 : emp (P k) = false → 0 ≤ idx n G (P k)) : Seen n G P (k + 1) where
  ne := fun i hi => by
    by_cases e : i = k
    · exact e ▸ h1
    · exact h.ne i (by omega)
  apart := fun i hi => by
    by_cases e : i = k
    · exact e ▸ h2
    · exact h.apart i (by omega)
  known := fun i hi => by
    by_cases e : i = k
    · exact e ▸ h3
    · exact h.known i (by omega)
theorem up_lim {n : Nat} {G P : Nat → ByteArray} {i : Nat} (h : Seen n G P n) (hi : i < n) : up n G P i = -1 ∨ ∃ k : Nat, k < n ∧ up n G P i = k := by
  rcases Bool.eq_false_or_eq_true (emp (P i)) with t | t
  · exact .inl (up_root t)
  · right
    rw [up_else t]
    have := h.known i hi t
    rcases stepI_spec (fun j => seq (G j) (P i)) n with ⟨h1, _⟩ | ⟨s, h1, h2, _, _⟩
    · unfold idx at this; omega
    · exact ⟨s, h2, h1⟩

set_option maxRecDepth 100000 in
set_option maxHeartbeats 1600000 in
theorem tree_some (b f b2 f2 n c c2 : Nat) (G P : Nat → ByteArray) (w : World) (hn : n ≤ 256) (hn0 : 0 < n) (hG : SAt w b f n G) (hP : SAt w b2 f2 n P) :
    Calls Try.prog 12 #[.slice (some ⟨b, f, none⟩) n c, .slice (some ⟨b2, f2, none⟩) n c2] w (Rows2 w n (up n G P) (Good n G P)) := by
  have hbs := hG.lt (by omega)
  have hbs2 := hP.lt (by omega)
  have hmk := make25 n (by omega)
  rw [fillI_zero (up n G P)] at hmk
  go_enter Try.func12, Try.ntmps12
  go_wp2
  go_loopw [8, 9] (fun r i wr => ∃ k d : Nat, k ≤ n ∧ i = .int .i64 k ∧ r = .int .i64 (cnt (fun i => emp (P i)) k) ∧ wr = (w.alloc (.cells (fillI (up n G P) n k) 3)).drewN d ∧ Hid (Seen n G P k)) (fun _ i _ => n - (intOf i).toNat)
  case atStart => exact ⟨0, 0, Nat.zero_le _, rfl, rfl, rfl, ⟨fun i h => absurd h (by omega), fun i h => absurd h (by omega), fun i h => absurd h (by omega)⟩⟩
  case round =>
    obtain ⟨k, d, hk, rfl, rfl, rfl, HB⟩ := hrel
    clear hmk
    by_cases hlt : k < n
    · have g0 := hG k hlt
      have p0 := hP k hlt
      have g1 := fillI_at (up n G P) n k hlt
      have HS := hide (fillI_succ (up n G P) n k hlt)
      have hc := cnt_le (fun i => emp (P i)) k
      rcases Bool.eq_false_or_eq_true (emp (G k)) with t | t
      · have t' : (G k).toList.isEmpty = true := t
        go_wp2
        go_ret2
        exact .no (below_drewN (below_new _ _) _)
      have t' : (G k).toList.isEmpty = false := t
      have T := hide t
      clear t
      go_wp2
      go_loopw [10] (fun j wr => ∃ l d' : Nat, l ≤ k ∧ j = .int .i64 l ∧ wr = (w.alloc (.cells (fillI (up n G P) n k) 3)).drewN d' ∧ Hid (∀ j, j < l → seq (G j) (G k) = false)) (fun j _ => k - (intOf j).toNat)
      case atStart => exact ⟨0, d, Nat.zero_le _, rfl, rfl, fun i h => absurd h (by omega)⟩
      case round =>
        obtain ⟨l, d', hl, rfl, rfl, HD⟩ := hrel
        by_cases hlt2 : l < k
        · have g2 := hG l (by omega)
          go_wp2
          go_quiet (fail)
          go_wp2
          · go_ret2
            exact .no (below_drewN (below_drewN (below_new _ _) _) _)
          · go_roundw
            case rel =>
              have hne : seq (G l) (G k) = false := by assumption
              exact ⟨l + 1, _, hlt2, by go_num, rfl, fun i hi => by
                by_cases e : i = l
                · exact e ▸ hne
                · exact HD.out i (by omega)⟩
            case measure => simp [intOf]; omega
        · obtain rfl : l = k := by omega
          rcases Bool.eq_false_or_eq_true (emp (P l)) with t | t
          · have t2 : (P l).toList.isEmpty = true := t
            have HS2 := hide (HS.out)
            rw [up_root t] at HS2
            have HC : Hid (cnt (fun i => emp (P i)) (l + 1) = cnt (fun i => emp (P i)) l + 1) := by simp [cnt, t, Hid]
            have HQ : Hid (Seen n G P (l + 1)) := HB.out.succ T.out HD.out (fun h => by rw [t] at h; cases h)
            clear t
            go_wp2
            go_roundw
            case rel => exact ⟨l + 1, _, hlt, by go_num, by rw [HC.out]; go_num, by rw [← HS2.out]; exact set_new _ _ _ _ _ _, HQ⟩
            case measure => simp [intOf]; omega
          · have t2 : (P l).toList.isEmpty = false := t
            rw [up_else t] at HS
            have HC : Hid (cnt (fun i => emp (P i)) (l + 1) = cnt (fun i => emp (P i)) l) := by simp [cnt, t, Hid]
            have HQ : Hid (0 ≤ idx n G (P l) → Seen n G P (l + 1)) := fun h => HB.out.succ T.out HD.out (fun _ => h)
            clear t
            go_wp2_with fail
            refine (idx_any _ n _ G (P l) _ (by omega) (.inr ⟨b, f, rfl, (hG.below (below_drewN (below_new _ _) _))⟩)).mono ?_
            rintro e w'' ⟨rfl, rfl⟩
            by_cases hneg : idx n G (P l) < 0
            · go_wp2
              go_ret2
              exact .no (below_drewN (below_new _ _) _)
            · have HN := hide (HQ.out (by omega))
              go_wp2
              go_roundw
              case rel => exact ⟨l + 1, _, hlt, by go_num, by rw [HC.out], by rw [← HS.out]; exact set_new _ _ _ _ _ _, HN⟩
              case measure => simp [intOf]; omega
    · obtain rfl : k = n := by omega
      have hk0 : (0 : Int) < k := by omega
      rcases Bool.eq_false_or_eq_true (((cnt (fun i => emp (P i)) k : Nat) : Int) != 1) with t | t
      · go_wp2
        go_ret2
        exact .no (below_drewN (below_new _ _) _)
      have HC : Hid (cnt (fun i => emp (P i)) k = 1) := by show _ = _; simp at t; omega
      go_wp2
      go_loop [12] (fun i => ∃ l : Nat, l ≤ k ∧ i = .int .i64 l ∧ Hid (∀ i : Nat, i < l → it (up k G P) (k + 1) i = -1)) (fun i => k - (intOf i).toNat)
      case atStart => exact ⟨0, Nat.zero_le _, rfl, fun i h => absurd h (by omega)⟩
      case round =>
        obtain ⟨l, hl, rfl, HD⟩ := hrel
        by_cases hlt2 : l < k
        · go_wp2
          go_loop [13, 14] (fun a s => ∃ m : Nat, m ≤ k + 1 ∧ s = .int .i64 m ∧ a = .int .i64 (it (up k G P) m l) ∧ Hid (it (up k G P) m l = -1 ∨ ∃ z : Nat, z < k ∧ it (up k G P) m l = z)) (fun _ i => k + 1 - (intOf i).toNat)
          case atStart => exact ⟨0, Nat.zero_le _, rfl, rfl, .inr ⟨l, hlt2, rfl⟩⟩
          case round =>
            obtain ⟨m, hm, rfl, rfl, HE⟩ := hrel
            rcases HE.out with e | ⟨z, hz, e⟩
            · have HF : Hid (it (up k G P) (k + 1) l = -1) := it_stay e hm
              rw [e]
              go_wp2
              go_round
              case rel => exact ⟨l + 1, hlt2, by go_num, fun i hi => by
                by_cases e : i = l
                · exact e ▸ HF.out
                · exact HD.out i (by omega)⟩
              case measure => simp [intOf]; omega
            · have hz1 : ((z : Int) != -1) = true := by simp
              have g2 := fillI_full (up k G P) k z hz
              have hs := it_succ (up k G P) m l
              rw [e, if_neg (by omega), Int.toNat_natCast] at hs
              have HF := hide (up_lim HB.out hz)
              rw [← hs] at HF
              have HG := hide hs
              clear hs
              rw [e]
              by_cases hmk : m ≤ k
              · go_wp2
                go_round
                case rel => exact ⟨m + 1, by omega, by go_num, by rw [HG.out], HF⟩
                case measure => simp [intOf]; omega
              · go_wp2
                go_ret2
                exact .no (below_drewN (below_new _ _) _)
        · obtain rfl : l = k := by omega
          go_wp2
          go_ret2
          exact Rows2.yes ⟨HB.out.ne, HB.out.apart, HB.out.known, fun _ => HC.out, HD.out⟩

theorem Good.zero (G P : Nat → ByteArray) : Good 0 G P := ⟨fun i h => absurd h (by omega), fun i h => absurd h (by omega), fun i h => absurd h (by omega), fun h => absurd h (by omega), fun i h => absurd h (by omega)⟩
set_option maxRecDepth 100000 in
set_option maxHeartbeats 1600000 in
theorem tree_any (a a2 : Option Addr) (n n2 c c2 : Nat) (G P : Nat → ByteArray) (w : World) (hn : n ≤ 256) (hG : SRow w a n G) (hP : SRow w a2 n2 P) :
    Calls Try.prog 12 #[.slice a n c, .slice a2 n2 c2] w (Rows2 w n (up n G P) (n2 = n ∧ Good n G P)) := by
  by_cases he : n2 = n
  · subst he
    by_cases h0 : n2 = 0
    · subst h0
      have hmk0 := make25 0 (by omega)
      rw [fillI_zero (up 0 G P)] at hmk0
      have hmk : ∀ w : World, (Instr.makeSlice 25 (.int .i64 0) (.int .i64 0)).run Try.prog w = .ok (.slice (some ⟨w.heap.size, 0, none⟩) 0 0) (w.alloc (.cells (fillI (up 0 G P) 0 0) 3)) := hmk0
      clear hmk0
      go_enter Try.func12, Try.ntmps12
      go_wp2
      refine wp_loop_rounds 1 ?_
      rw [rounds_succ]
      go_wp2
      refine wp_loop_rounds 1 ?_
      rw [rounds_succ]
      go_wp2
      go_ret2
      exact Rows2.yes (q := 0) ⟨trivial, Good.zero G P⟩
    · rcases hG with e | ⟨b, f, rfl, hG⟩
      · exact absurd e h0
      rcases hP with e | ⟨b2, f2, rfl, hP⟩
      · exact absurd e h0
      refine (tree_some b f b2 f2 n2 c c2 G P w hn (by omega) hG hP).mono ?_
      rintro e w' ⟨h1, h2⟩
      refine ⟨h1, h2.imp id ?_⟩
      rintro ⟨h3, h4, h5, h6⟩
      exact ⟨h3, h4, h5, rfl, h6⟩
  · have hne : ((n2 : Int) != n) = true := by simp; omega
    go_enter Try.func12, Try.ntmps12
    go_wp2
    go_ret2
    exact .no (Below.refl _ _)
end Go.Proofs.Qxb6000409a
