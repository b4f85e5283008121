import Derived.Test.Qxb6600053aA
import Derived.RegionTactic
import Derived.BigRegion
import Derived.Deep.DeepCutAuto
import Derived.Deep.LoopGhost
import Derived.Deep.Light
namespace Go.Proofs.Qxb6600053a
open Go.RowKit

/-! ### max, min on floats that are no NaN -/
def fmax (x y : Nat) : Nat := match fo x y with
  | none => x | some .lt => y | some .gt => x | some .eq => if (FloatKind.f64.decode x).neg then y else x
def fmin (x y : Nat) : Nat := match fo x y with
  | none => x | some .lt => x | some .gt => y | some .eq => if (FloatKind.f64.decode x).neg then x else y
theorem run_fmax (P : Program) (ts : Array TypeId) (t : TypeId) (x y : Nat) (w : World) (h : fo x y ≠ none) : (Builtin.max_ ts t #[.float .f64 x, .float .f64 y]).run P w = .ok (.float .f64 (fmax x y)) w := by
  unfold fmax
  unfold fo at *
  match ho : FloatKind.f64.format.order x y with
  | none => exact absurd ho h
  | some .lt => simp [Builtin.max_, Builtin.max2, ho]
  | some .gt => simp [Builtin.max_, Builtin.max2, ho]
  | some .eq => simp [Builtin.max_, Builtin.max2, ho]
theorem run_fmin (P : Program) (ts : Array TypeId) (t : TypeId) (x y : Nat) (w : World) (h : fo x y ≠ none) : (Builtin.min_ ts t #[.float .f64 x, .float .f64 y]).run P w = .ok (.float .f64 (fmin x y)) w := by
  unfold fmin
  unfold fo at *
  match ho : FloatKind.f64.format.order x y with
  | none => exact absurd ho h
  | some .lt => simp [Builtin.min_, Builtin.min2, ho]
  | some .gt => simp [Builtin.min_, Builtin.min2, ho]
  | some .eq => simp [Builtin.min_, Builtin.min2, ho]

theorem info4 : (Try.prog.info? 4).map (fun i => (i.zero, i.size, i.bytes)) = some (some (.bool false), 1, 1) := by kernel_rfl
theorem make41 (n : Nat) (hn : n ≤ 1048576) (w : World) : (Instr.makeSlice 41 (.int .i64 n) (.int .i64 n)).run Try.prog w = .ok (.slice (some ⟨w.heap.size, 0, none⟩) n n) (w.alloc (.cells (madeCells #[.bool false] n) 4)) := by
  obtain ⟨i0, hi, hz0, hz1, hz2⟩ := info_parts info4
  have h := run_make w (P := Try.prog) 41 4 i0 (.bool false) Try.underlying41 hi hz0 .i64 .i64 n n (by omega) (by omega) (by rw [hz2]; omega) (by omega)
  rw [hz1] at h
  simpa [Value.cells] using h


theorem cell_set (w : World) (p q : Addr) (v u : Value) (h : w.cell? p = some u) : (w.setCell p v).cell? q = if q = p then some v else w.cell? q := by
  by_cases e : q = p
  · subst e; rw [if_pos rfl]; exact World.cell?_setCell_same w _ v h
  · rw [if_neg e]; exact World.cell?_setCell_other _ _ _ _ (fun h => e h.symm)

/-- parentOf's own memory: the boxes of z and box at B, B + 1, of p at B + 2; p's rows at ba, bb -/
structure PInv (w : World) (B : Nat) (v0 v1 v2 v3 : Value) (n ba bb : Nat) (xa : Nat → Nat) (xb : Nat → Bool) (wr : World) : Prop where
  below : Below B w wr
  z0 : wr.cell? ⟨B, 0, none⟩ = some v0
  z1 : wr.cell? ⟨B, 1, none⟩ = some v1
  z2 : wr.cell? ⟨B + 1, 0, none⟩ = some v2
  z3 : wr.cell? ⟨B + 1, 1, none⟩ = some v3
  p0 : wr.cell? ⟨B + 1 + 1, 0, none⟩ = some (.slice (some ⟨ba, 0, none⟩) n n)
  p1 : wr.cell? ⟨B + 1 + 1, 1, none⟩ = some (.slice (some ⟨bb, 0, none⟩) n n)
  q0 : wr.frozen? ⟨B + 1 + 1, 0, none⟩ = false
  q1 : wr.frozen? ⟨B + 1 + 1, 1, none⟩ = false
  ca : ∀ i, i < n → wr.cell? ⟨ba, i, none⟩ = some (.float .f64 (xa i))
  cb : ∀ i, i < n → wr.cell? ⟨bb, i, none⟩ = some (.bool (xb i))
  fa : ∀ i, i < n → wr.frozen? ⟨ba, i, none⟩ = false
  fb : ∀ i, i < n → wr.frozen? ⟨bb, i, none⟩ = false
  la : B + 3 ≤ ba
  lb : B + 3 ≤ bb
  ne : ba ≠ bb

section
variable {w : World} {B : Nat} {v0 v1 v2 v3 : Value} {n ba bb : Nat} {xa : Nat → Nat} {xb : Nat → Bool} {wr : World}

theorem PInv.drewN (h : PInv w B v0 v1 v2 v3 n ba bb xa xb wr) (m : Nat) : PInv w B v0 v1 v2 v3 n ba bb xa xb (wr.drewN m) :=
  ⟨⟨h.below.os, h.below.tape, h.below.output, h.below.size, h.below.block⟩, h.z0, h.z1, h.z2, h.z3, h.p0, h.p1, h.q0, h.q1, h.ca, h.cb, h.fa, h.fb, h.la, h.lb, h.ne⟩

theorem PInv.setA (h : PInv w B v0 v1 v2 v3 n ba bb xa xb wr) (k : Nat) (hk : k < n) (x : Nat) :
    PInv w B v0 v1 v2 v3 n ba bb (fun i => if i = k then x else xa i) xb (wr.setCell ⟨ba, k, none⟩ (.float .f64 x)) := by
  have hc := h.ca k hk
  have la := h.la
  have far : ∀ q i, q ≠ ba → (wr.setCell ⟨ba, k, none⟩ (.float .f64 x)).cell? ⟨q, i, none⟩ = wr.cell? ⟨q, i, none⟩ := fun q i hq => by
    rw [cell_set _ _ _ _ _ hc, if_neg (by intro e; cases e; exact hq rfl)]
  have fz : ∀ q i, (wr.setCell ⟨ba, k, none⟩ (.float .f64 x)).frozen? ⟨q, i, none⟩ = wr.frozen? ⟨q, i, none⟩ := fun q i => by rw [World.frozen?_setCell]
  refine ⟨h.below.setCell (by show B ≤ ba; omega) _, ?_, ?_, ?_, ?_, ?_, ?_, ?_, ?_, fun i hi => ?_, fun i hi => ?_, fun i hi => ?_, fun i hi => ?_, h.la, h.lb, h.ne⟩
  · rw [far _ _ (by omega)]; exact h.z0
  · rw [far _ _ (by omega)]; exact h.z1
  · rw [far _ _ (by omega)]; exact h.z2
  · rw [far _ _ (by omega)]; exact h.z3
  · rw [far _ _ (by omega)]; exact h.p0
  · rw [far _ _ (by omega)]; exact h.p1
  · rw [fz]; exact h.q0
  · rw [fz]; exact h.q1
  · rw [cell_set _ _ _ _ _ hc]
    by_cases e : i = k
    · subst e; simp
    · rw [if_neg (by intro e'; cases e'; exact e rfl), if_neg e]; exact h.ca i hi
  · rw [far _ _ (fun e => h.ne e.symm)]; exact h.cb i hi
  · rw [fz]; exact h.fa i hi
  · rw [fz]; exact h.fb i hi

theorem PInv.setB (h : PInv w B v0 v1 v2 v3 n ba bb xa xb wr) (k : Nat) (hk : k < n) (x : Bool) :
    PInv w B v0 v1 v2 v3 n ba bb xa (fun i => if i = k then x else xb i) (wr.setCell ⟨bb, k, none⟩ (.bool x)) := by
  have hc := h.cb k hk
  have lb := h.lb
  have far : ∀ q i, q ≠ bb → (wr.setCell ⟨bb, k, none⟩ (.bool x)).cell? ⟨q, i, none⟩ = wr.cell? ⟨q, i, none⟩ := fun q i hq => by
    rw [cell_set _ _ _ _ _ hc, if_neg (by intro e; cases e; exact hq rfl)]
  have fz : ∀ q i, (wr.setCell ⟨bb, k, none⟩ (.bool x)).frozen? ⟨q, i, none⟩ = wr.frozen? ⟨q, i, none⟩ := fun q i => by rw [World.frozen?_setCell]
  refine ⟨h.below.setCell (by show B ≤ bb; omega) _, ?_, ?_, ?_, ?_, ?_, ?_, ?_, ?_, fun i hi => ?_, fun i hi => ?_, fun i hi => ?_, fun i hi => ?_, h.la, h.lb, h.ne⟩
  · rw [far _ _ (by omega)]; exact h.z0
  · rw [far _ _ (by omega)]; exact h.z1
  · rw [far _ _ (by omega)]; exact h.z2
  · rw [far _ _ (by omega)]; exact h.z3
  · rw [far _ _ (by omega)]; exact h.p0
  · rw [far _ _ (by omega)]; exact h.p1
  · rw [fz]; exact h.q0
  · rw [fz]; exact h.q1
  · rw [far _ _ (fun e => h.ne e)]; exact h.ca i hi
  · rw [cell_set _ _ _ _ _ hc]
    by_cases e : i = k
    · subst e; simp
    · rw [if_neg (by intro e'; cases e'; exact e rfl), if_neg e]; exact h.cb i hi
  · rw [fz]; exact h.fa i hi
  · rw [fz]; exact h.fb i hi
end

def zF (n : Nat) : Array Value := madeCells #[.float .f64 0] n
def zB (n : Nat) : Array Value := madeCells #[.bool false] n
theorem zF_get {n i : Nat} (h : i < n) : (zF n)[i]? = some (.float .f64 0) := by
  simp [zF, madeCells, h, Nat.mod_one]
theorem zB_get {n i : Nat} (h : i < n) : (zB n)[i]? = some (.bool false) := by
  simp [zB, madeCells, h, Nat.mod_one]


/-! ### what parentOf reckons in one dimension -/
def isLo (e lo : Nat → Nat) (i : Nat) : Bool := fo (e i) (lo i) == some .lt
def isHi (e hi : Nat → Nat) (i : Nat) : Bool := fo (e i) (hi i) == some .gt || fo (e i) (hi i) == some .eq
def atF (e lo hi : Nat → Nat) (i : Nat) : Nat := if isLo e lo i then lo i else if isHi e hi i then hi i else e i
def blF (e lo hi : Nat → Nat) (i : Nat) : Bool := !isLo e lo i && isHi e hi i
def msF (e lo hi : Nat → Nat) (i : Nat) : Bool := isLo e lo i || isHi e hi i
def stepI (ms : Nat → Bool) : Nat → Int
  | 0 => -1
  | k + 1 => if stepI ms k < 0 then (if ms k then (k : Int) else -1) else stepI ms k

theorem isLo_t {e lo : Nat → Nat} {i : Nat} (h : (fo (e i) (lo i) == some .lt) = true) : isLo e lo i = true := h
theorem isLo_f {e lo : Nat → Nat} {i : Nat} (h : (fo (e i) (lo i) == some .lt) = false) : isLo e lo i = false := h
theorem isHi_t {e hi : Nat → Nat} {i : Nat} (h : (fo (e i) (hi i) == some .gt) = true ∨ (fo (e i) (hi i) == some .eq) = true) : isHi e hi i = true := by
  unfold isHi; rcases h with h | h <;> simp [h]
theorem isHi_f {e hi : Nat → Nat} {i : Nat} (h : (fo (e i) (hi i) == some .gt) = false ∧ (fo (e i) (hi i) == some .eq) = false) : isHi e hi i = false := by
  unfold isHi; simp [h]
theorem msF_lo {e lo hi : Nat → Nat} {i : Nat} (h : isLo e lo i = true) : msF e lo hi i = true := by simp [msF, h]
theorem msF_hi {e lo hi : Nat → Nat} {i : Nat} (h : isHi e hi i = true) : msF e lo hi i = true := by simp [msF, h]
theorem msF_f {e lo hi : Nat → Nat} {i : Nat} (h : isLo e lo i = false) (h' : isHi e hi i = false) : msF e lo hi i = false := by simp [msF, h, h']
theorem stepI_neg {ms : Nat → Bool} : ∀ {k : Nat}, stepI ms k < 0 → stepI ms k = -1
  | 0, _ => rfl
  | k + 1, h => by
    simp only [stepI] at *
    split
    · rename_i h1
      rw [if_pos h1] at h
      split
      · rename_i h2; rw [if_pos h2] at h; omega
      · rfl
    · rename_i h1; rw [if_neg h1] at h; omega
theorem stepI_new {ms : Nat → Bool} {k : Nat} (h : stepI ms k < 0) (hm : ms k = true) : (k : Int) = stepI ms (k + 1) := by
  simp [stepI, h, hm]
theorem stepI_old {ms : Nat → Bool} {k : Nat} (h : 0 ≤ stepI ms k) : stepI ms k = stepI ms (k + 1) := by
  have : ¬ stepI ms k < 0 := by omega
  simp [stepI, this]
theorem stepI_none {ms : Nat → Bool} {k : Nat} (hm : ms k = false) : stepI ms k = stepI ms (k + 1) := by
  by_cases h : stepI ms k < 0
  · have := stepI_neg h; simp [stepI, hm, this]
  · simp [stepI, h]
/-- what the step says -/
theorem stepI_spec (ms : Nat → Bool) : ∀ k : Nat, (stepI ms k = -1 ∧ ∀ i, i < k → ms i = false) ∨ ∃ s : Nat, stepI ms k = s ∧ s < k ∧ ms s = true ∧ ∀ i, i < s → ms i = false
  | 0 => .inl ⟨rfl, fun i h => absurd h (by omega)⟩
  | k + 1 => by
    rcases stepI_spec ms k with ⟨h1, h2⟩ | ⟨s, h1, h2, h3, h4⟩
    · by_cases hm : ms k = true
      · exact .inr ⟨k, (stepI_new (by omega) hm).symm, by omega, hm, h2⟩
      · have hm' : ms k = false := by simpa using hm
        refine .inl ⟨by rw [← stepI_none hm', h1], fun i hi => ?_⟩
        by_cases e : i = k
        · exact e ▸ hm'
        · exact h2 i (by omega)
    · exact .inr ⟨s, by rw [← stepI_old (by omega), h1], by omega, h3, h4⟩
theorem num_eq {a b : Int} (h : a = b) : Value.int .i64 a = .int .i64 b := by rw [h]

theorem upd_at {α : Type} (g : Nat → α) (z : α) (k : Nat) (x : α) (h : x = g k) : (fun i => if i = k then x else if i < k then g i else z) = fun i => if i < k + 1 then g i else z := by
  funext i
  by_cases e : i = k
  · subst e; simp [h]
  · have : (i < k) = (i < k + 1) := propext (by omega)
    simp only [e, if_false, this]
theorem keep_at {α : Type} (g : Nat → α) (z : α) (k : Nat) (h : g k = z) : (fun i => if i < k then g i else z) = fun i => if i < k + 1 then g i else z := by
  funext i
  by_cases e : i = k
  · subst e; simp [h]
  · have : (i < k) = (i < k + 1) := propext (by omega)
    simp only [this]


theorem zF_size (n : Nat) : (zF n).size = n := by simp [zF, madeCells]
theorem zB_size (n : Nat) : (zB n).size = n := by simp [zB, madeCells]

section
variable (w : World) (v0 v1 v2 v3 : Value) (n : Nat)
theorem first_ab : ∃ ba bb, PInv w w.heap.size v0 v1 v2 v3 n ba bb (fun _ => 0) (fun _ => false) (((((w.alloc (.cells #[v0, v1] 26)).alloc (.cells #[v2, v3] 26)).alloc
    (.cells #[.slice (some ⟨w.heap.size + 1 + 1 + 1, 0, none⟩) n n, .slice (some ⟨w.heap.size + 1 + 1 + 1 + 1, 0, none⟩) n n] 49)).alloc (.cells (zF n) 30)).alloc (.cells (zB n) 4)).drew := by
  refine ⟨w.heap.size + 1 + 1 + 1, w.heap.size + 1 + 1 + 1 + 1, ?_, ?_, ?_, ?_, ?_, ?_, ?_, ?_, ?_, fun i hi => ?_, fun i hi => ?_, fun i hi => ?_, fun i hi => ?_, by omega, by omega, by omega⟩
  · exact Below.drew (((((Below.refl _ _).alloc (Nat.le_refl _) _).alloc (by simp) _).alloc (by simp; omega) _).alloc (by simp; omega) _ |>.alloc (by simp; omega) _)
  all_goals simp [go_sem, zF_get, zB_get, *]
theorem first_ba : ∃ ba bb, PInv w w.heap.size v0 v1 v2 v3 n ba bb (fun _ => 0) (fun _ => false) (((((w.alloc (.cells #[v0, v1] 26)).alloc (.cells #[v2, v3] 26)).alloc
    (.cells #[.slice (some ⟨w.heap.size + 1 + 1 + 1 + 1, 0, none⟩) n n, .slice (some ⟨w.heap.size + 1 + 1 + 1, 0, none⟩) n n] 49)).alloc (.cells (zB n) 4)).alloc (.cells (zF n) 30)).drew := by
  refine ⟨w.heap.size + 1 + 1 + 1 + 1, w.heap.size + 1 + 1 + 1, ?_, ?_, ?_, ?_, ?_, ?_, ?_, ?_, ?_, fun i hi => ?_, fun i hi => ?_, fun i hi => ?_, fun i hi => ?_, by omega, by omega, by omega⟩
  · exact Below.drew (((((Below.refl _ _).alloc (Nat.le_refl _) _).alloc (by simp) _).alloc (by simp; omega) _).alloc (by simp; omega) _ |>.alloc (by simp; omega) _)
  all_goals simp [go_sem, zF_get, zB_get, *]
end

attribute [local go_sem] run_store_f

/-- parentOf's memory at round k -/
def PK (w : World) (v0 v1 v2 v3 : Value) (n ba bb : Nat) (en lo hi : Nat → Nat) (k : Nat) (wr : World) : Prop :=
  PInv w w.heap.size v0 v1 v2 v3 n ba bb (fun i => if i < k then atF en lo hi i else 0) (fun i => if i < k then blF en lo hi i else false) wr

section
variable {w : World} {v0 v1 v2 v3 : Value} {n ba bb : Nat} {en lo hi : Nat → Nat} {k : Nat} {wr : World}
theorem pk_lo (h : PK w v0 v1 v2 v3 n ba bb en lo hi k wr) (hk : k < n) (hl : isLo en lo k = true) : PK w v0 v1 v2 v3 n ba bb en lo hi (k + 1) (wr.setCell ⟨ba, k, none⟩ (.float .f64 (lo k))) := by
  have h' := h.setA k hk (lo k)
  rw [upd_at _ _ _ _ (by simp [atF, hl]), keep_at (blF en lo hi) _ _ (by simp [blF, hl])] at h'
  exact h'
theorem pk_mid (h : PK w v0 v1 v2 v3 n ba bb en lo hi k wr) (hk : k < n) (hl : isLo en lo k = false) (hh : isHi en hi k = false) : PK w v0 v1 v2 v3 n ba bb en lo hi (k + 1) (wr.setCell ⟨ba, k, none⟩ (.float .f64 (en k))) := by
  have h' := h.setA k hk (en k)
  rw [upd_at _ _ _ _ (by simp [atF, hl, hh]), keep_at (blF en lo hi) _ _ (by simp [blF, hl, hh])] at h'
  exact h'
theorem pk_hi (h : PK w v0 v1 v2 v3 n ba bb en lo hi k wr) (hk : k < n) (hl : isLo en lo k = false) (hh : isHi en hi k = true) : PK w v0 v1 v2 v3 n ba bb en lo hi (k + 1) ((wr.setCell ⟨ba, k, none⟩ (.float .f64 (hi k))).setCell ⟨bb, k, none⟩ (.bool true)) := by
  have h' := (h.setA k hk (hi k)).setB k hk true
  rw [upd_at _ _ _ _ (by simp [atF, hl, hh]), upd_at (blF en lo hi) _ _ _ (by simp [blF, hl, hh])] at h'
  exact h'
end

/-- the cells at ⟨b, f⟩ hold the Bools x 0 .. x (n - 1) -/
def BAt (w : World) (b f n : Nat) (x : Nat → Bool) : Prop := ∀ i, i < n → w.cell? ⟨b, f + i, none⟩ = some (.bool (x i))

/-- what parentOf answers -/
def ParPost (n : Nat) (en lo hi : Nat → Nat) (e : Ending) (w' : World) : Prop :=
  ((∀ i, i < n → msF en lo hi i = false) ∧ e = .returned (.tuple #[.agg #[.slice none 0 0, .slice none 0 0], .bool false])) ∨
  ∃ s ba bb, s < n ∧ msF en lo hi s = true ∧ (∀ i, i < s → msF en lo hi i = false) ∧
    e = .returned (.tuple #[.agg #[.slice (some ⟨ba, 0, none⟩) n n, .slice (some ⟨bb, 0, none⟩) n n], .bool true]) ∧
    FAt w' ba 0 n (atF en lo hi) ∧ BAt w' bb 0 n (fun i => if i = s then !blF en lo hi i else blF en lo hi i)

theorem PInv.atA {w : World} {B : Nat} {v0 v1 v2 v3 : Value} {n ba bb : Nat} {xa : Nat → Nat} {xb : Nat → Bool} {wr : World} (h : PInv w B v0 v1 v2 v3 n ba bb xa xb wr) : FAt wr ba 0 n xa := fun i hi => by rw [Nat.zero_add]; exact h.ca i hi
theorem PInv.atB {w : World} {B : Nat} {v0 v1 v2 v3 : Value} {n ba bb : Nat} {xa : Nat → Nat} {xb : Nat → Bool} {wr : World} (h : PInv w B v0 v1 v2 v3 n ba bb xa xb wr) : BAt wr bb 0 n xb := fun i hi => by rw [Nat.zero_add]; exact h.cb i hi
theorem FAt.same {w : World} {b f n : Nat} {x y : Nat → Nat} (h : FAt w b f n x) (e : ∀ i, i < n → x i = y i) : FAt w b f n y := fun i hi => by rw [← e i hi]; exact h i hi
theorem BAt.drewN {w : World} {b f n m : Nat} {x : Nat → Bool} (h : BAt w b f n x) : BAt (w.drewN m) b f n x := fun i hi => by
  have := h i hi
  simpa using this
theorem BAt.same {w : World} {b f n : Nat} {x y : Nat → Bool} (h : BAt w b f n x) (e : ∀ i, i < n → x i = y i) : BAt w b f n y := fun i hi => by rw [← e i hi]; exact h i hi
theorem FAt.stored {w : World} {b f n p o : Nat} {x : Nat → Nat} {v : Value} (h : FAt w b f n x) (hp : p ≠ b) : FAt (w.setCell ⟨p, o, none⟩ v) b f n x := fun i hi => by
  rw [World.cell?_setCell_other _ _ _ _ (by intro e; cases e; exact hp rfl)]; exact h i hi
theorem BAt.stored {w : World} {b f n p o : Nat} {x : Nat → Bool} {v : Value} (h : BAt w b f n x) (hp : p ≠ b) : BAt (w.setCell ⟨p, o, none⟩ v) b f n x := fun i hi => by
  rw [World.cell?_setCell_other _ _ _ _ (by intro e; cases e; exact hp rfl)]; exact h i hi

set_option maxHeartbeats 400000 in
theorem par_some (b0 f0 b1 f1 b2 f2 b3 f3 b f n c0 c1 c2 c3 c : Nat) (zl zh bl bh en lo hi : Nat → Nat) (w : World) (hn : n ≤ 1048576)
    (h0 : FAt w b0 f0 n zl) (h1 : FAt w b1 f1 n zh) (h2 : FAt w b2 f2 n bl) (h3 : FAt w b3 f3 n bh) (h4 : FAt w b f n en)
    (k0 : b0 < w.heap.size) (k1 : b1 < w.heap.size) (k2 : b2 < w.heap.size) (k3 : b3 < w.heap.size) (k4 : b < w.heap.size)
    (hlo : ∀ i, i < n → ∀ ts t w, (Builtin.max_ ts t #[.float .f64 (zl i), .float .f64 (bl i)]).run Try.prog w = .ok (.float .f64 (lo i)) w)
    (hhi : ∀ i, i < n → ∀ ts t w, (Builtin.min_ ts t #[.float .f64 (zh i), .float .f64 (bh i)]).run Try.prog w = .ok (.float .f64 (hi i)) w) :
    Calls Try.prog 33 #[.agg #[.slice (some ⟨b0, f0, none⟩) n c0, .slice (some ⟨b1, f1, none⟩) n c1], .agg #[.slice (some ⟨b2, f2, none⟩) n c2, .slice (some ⟨b3, f3, none⟩) n c3], .slice (some ⟨b, f, none⟩) n c] w fun e w' => Below w.heap.size w w' ∧ ParPost n en lo hi e w' := by
  have hm1 : ∀ w, (Instr.makeSlice 22 (.int .i64 n) (.int .i64 n)).run Try.prog w = .ok (.slice (some ⟨w.heap.size, 0, none⟩) n n) (w.alloc (.cells (zF n) 30)) := make22 n hn
  have hm2 : ∀ w, (Instr.makeSlice 41 (.int .i64 n) (.int .i64 n)).run Try.prog w = .ok (.slice (some ⟨w.heap.size, 0, none⟩) n n) (w.alloc (.cells (zB n) 4)) := make41 n hn
  go_enter Try.func33, Try.ntmps33
  go_wp2
  go_cut [] (fun wc => ∃ ba bb, PInv w w.heap.size (.slice (some ⟨b0, f0, none⟩) n c0) (.slice (some ⟨b1, f1, none⟩) n c1) (.slice (some ⟨b2, f2, none⟩) n c2) (.slice (some ⟨b3, f3, none⟩) n c3) n ba bb (fun _ => 0) (fun _ => false) wc)
  case first =>
    go_region
    all_goals
      go_step
      go_step
      go_meet
    case rel => exact first_ab ..
    case rel => exact first_ba ..
  case rest =>
    obtain ⟨ba, bb, hI⟩ := hcut
    clear hm1 hm2
    go_wp2
    have HI : Hid (PK w (.slice (some ⟨b0, f0, none⟩) n c0) (.slice (some ⟨b1, f1, none⟩) n c1) (.slice (some ⟨b2, f2, none⟩) n c2) (.slice (some ⟨b3, f3, none⟩) n c3) n ba bb en lo hi 0 wc) := by simpa [PK, Hid] using hI
    clear hI
    go_loopw [22, 8] (fun i st wr => ∃ k : Nat, k ≤ n ∧ i = .int .i64 k ∧ st = .int .i64 (stepI (msF en lo hi) k) ∧ 
       Hid (PK w (.slice (some ⟨b0, f0, none⟩) n c0) (.slice (some ⟨b1, f1, none⟩) n c1) (.slice (some ⟨b2, f2, none⟩) n c2) (.slice (some ⟨b3, f3, none⟩) n c3) n ba bb en lo hi k wr)) (fun i _ _ => n - (intOf i).toNat)
    case atStart => exact ⟨0, Nat.zero_le _, rfl, rfl, HI⟩
    case round =>
      obtain ⟨k, hk, rfl, rfl, HP⟩ := hrel
      clear HI
      by_cases hlt : k < n
      · have z0 := HP.out.z0
        have z1 := HP.out.z1
        have z2 := HP.out.z2
        have z3 := HP.out.z3
        have p0 := HP.out.p0
        have p1 := HP.out.p1
        have ca := HP.out.ca k hlt
        have cb := HP.out.cb k hlt
        have fa := HP.out.fa k hlt
        have fb := HP.out.fb k hlt
        have la := HP.out.la
        have lb := HP.out.lb
        have ne := HP.out.ne
        have hmax := hlo k hlt
        have hmin := hhi k hlt
        have hbel : Below w.heap.size w wr := HP.out.below
        have g0 : wr.cell? ⟨b0, f0 + k, none⟩ = _ := (h0.below hbel k0) k hlt
        have g1 : wr.cell? ⟨b1, f1 + k, none⟩ = _ := (h1.below hbel k1) k hlt
        have g2 : wr.cell? ⟨b2, f2 + k, none⟩ = _ := (h2.below hbel k2) k hlt
        have g3 : wr.cell? ⟨b3, f3 + k, none⟩ = _ := (h3.below hbel k3) k hlt
        have g4 : wr.cell? ⟨b, f + k, none⟩ = _ := (h4.below hbel k4) k hlt
        clear hbel hlo hhi
        go_wp2
        go_quiet (fail)
        clear hmax hmin g0 g1 g2 g3 g4 z0 z1 z2 z3 k0 k1 k2 k3 k4
        go_wp2
        all_goals try go_region
        all_goals try go_wp2
        all_goals
          go_roundw
        case rel =>
          have t1 := isLo_t (e := en) (lo := lo) (i := k) (by assumption)
          exact ⟨k + 1, hlt, by go_num, num_eq (stepI_new (by assumption) (msF_lo t1)), pk_lo (HP.out.drewN nq) hlt t1⟩
        case rel =>
          have t1 := isLo_t (e := en) (lo := lo) (i := k) (by assumption)
          exact ⟨k + 1, hlt, by go_num, num_eq (stepI_old (by assumption)), pk_lo (HP.out.drewN nq) hlt t1⟩
        case rel =>
          have t1 := isLo_f (e := en) (lo := lo) (i := k) (by assumption)
          have t2 := isHi_t (e := en) (hi := hi) (i := k) (by assumption)
          exact ⟨k + 1, hlt, by go_num, num_eq (stepI_new (by assumption) (msF_hi t2)), pk_hi (HP.out.drewN (nq + 1)) hlt t1 t2⟩
        case rel =>
          have t1 := isLo_f (e := en) (lo := lo) (i := k) (by assumption)
          have t2 := isHi_t (e := en) (hi := hi) (i := k) (by assumption)
          exact ⟨k + 1, hlt, by go_num, num_eq (stepI_old (by assumption)), pk_hi (HP.out.drewN (nq + 1)) hlt t1 t2⟩
        case rel =>
          have t1 := isLo_f (e := en) (lo := lo) (i := k) (by assumption)
          have t2 := isHi_f (e := en) (hi := hi) (i := k) (by assumption)
          exact ⟨k + 1, hlt, by go_num, num_eq (stepI_none (msF_f t1 t2)), pk_mid (HP.out.drewN nq) hlt t1 t2⟩
        all_goals (simp [intOf]; omega)
      · obtain rfl : k = n := by omega
        have p0 := HP.out.p0
        have p1 := HP.out.p1
        have q0 := HP.out.q0
        have q1 := HP.out.q1
        have hbel : Hid (Below w.heap.size w wr) := HP.out.below
        rcases stepI_spec (msF en lo hi) k with ⟨s1, s2⟩ | ⟨s, s1, s2, s3, s4⟩
        · have S2 : Hid (∀ i, i < k → msF en lo hi i = false) := s2
          clear hlo hhi s2 h0 h1 h2 h3 h4
          go_wp2
          refine bodyPost_ret (v := .tuple #[.agg #[.slice none 0 0, .slice none 0 0], .bool false]) ?_ rfl ?_
          · simp [results, Try.results33, go_sem, p0, p1]
          · exact ⟨(hbel.out.setCell (by show w.heap.size ≤ w.heap.size + 1 + 1; omega) _).setCell (by show w.heap.size ≤ w.heap.size + 1 + 1; omega) _, .inl ⟨S2.out, rfl⟩⟩
        · have S4 : Hid (msF en lo hi s = true ∧ ∀ i, i < s → msF en lo hi i = false) := ⟨s3, s4⟩
          have cs : wr.cell? ⟨bb, s, none⟩ = some (.bool (blF en lo hi s)) := by have := HP.out.cb s s2; simpa [s2] using this
          have fs := HP.out.fb s s2
          have la := HP.out.la
          have lb := HP.out.lb
          clear hlo hhi s3 s4 h0 h1 h2 h3 h4
          go_wp2
          go_region
          go_wp2
          refine bodyPost_ret (v := .tuple #[.agg #[.slice (some ⟨ba, 0, none⟩) k k, .slice (some ⟨bb, 0, none⟩) k k], .bool true]) ?_ rfl ?_
          · simp [results, Try.results33, go_sem, p0, p1]
          · have hp := HP.out.setB s s2 (!blF en lo hi s)
            have hb := hp.below
            have xa := hp.atA
            have xb := hp.atB
            refine ⟨?_, .inr ⟨s, ba, bb, s2, S4.out.1, S4.out.2, rfl, ?_, ?_⟩⟩
            · exact ((hb.setCell (by show w.heap.size ≤ w.heap.size + 1 + 1; omega) _).setCell (by show w.heap.size ≤ w.heap.size + 1 + 1; omega) _).drew
            · exact (((xa.same (fun i hi => by simp [hi])).stored (by omega)).stored (by omega)).drewN (m := 1)
            · have xb' : BAt _ bb 0 k (fun i => if i = s then !blF en lo hi i else blF en lo hi i) := xb.same (fun i hi => by
                by_cases e : i = s
                · subst e; simp
                · simp [e, hi])
              exact ((xb'.stored (by omega)).stored (by omega)).drewN (m := 1)
end Go.Proofs.Qxb6600053a
