import Derived.Test.Qxb6000409aB
namespace Go.Proofs.Qxb6000409a
open Go.RowKit

/-! ### the tree, plainly: q i is the parent of i, -1 above the root -/
/-- s steps up from d -/
def it (q : Nat → Int) : Nat → Int → Int
  | 0, d => d
  | s + 1, d => if d < 0 then -1 else it q s (q d.toNat)
theorem it_neg (q : Nat → Int) : ∀ s, it q s (-1) = -1
  | 0 => rfl
  | s + 1 => by simp [it]
theorem it_neg' (q : Nat → Int) {d : Int} (h : d = -1) (s : Nat) : it q s d = -1 := by rw [h, it_neg]
theorem it_succ (q : Nat → Int) : ∀ (s : Nat) (d : Int), it q (s + 1) d = if it q s d < 0 then -1 else q (it q s d).toNat
  | 0, d => rfl
  | s + 1, d => by
    by_cases hd : d < 0
    · simp [it, hd]
    · have e : it q (s + 1 + 1) d = it q (s + 1) (q d.toNat) := by rw [it, if_neg hd]
      have e2 : it q (s + 1) d = it q s (q d.toNat) := by rw [it, if_neg hd]
      rw [e, it_succ q s, e2]
theorem it_add (q : Nat → Int) : ∀ (s t : Nat) (d : Int), 0 ≤ it q s d → it q t (it q s d) = it q (s + t) d
  | 0, t, d, _ => by simp [it]
  | s + 1, t, d, h => by
    by_cases hd : d < 0
    · simp [it, hd] at h
    · rw [show s + 1 + t = (s + t) + 1 by omega]
      simp only [it, if_neg hd] at h ⊢
      exact it_add q s t _ h
theorem it_stay {q : Nat → Int} {s t : Nat} {d : Int} (h : it q s d = -1) (hst : s ≤ t) : it q t d = -1 := by
  obtain ⟨u, rfl⟩ := Nat.exists_eq_add_of_le hst
  induction u with
  | zero => exact h
  | succ u ih => rw [← Nat.add_assoc, it_succ, ih (by omega)]; simp

/-- q's values are places below n or -1, dep is the number of steps up to the root, the root is one -/
structure Up (n : Nat) (q : Nat → Int) (dep : Nat → Nat) : Prop where
  par : ∀ i, i < n → (q i = -1 ∧ dep i = 0) ∨ ∃ k : Nat, k < n ∧ q i = k ∧ dep i = dep k + 1
  lim : ∀ i, i < n → dep i ≤ n
  root : ∀ i j, i < n → j < n → q i = -1 → q j = -1 → i = j
/-- x lies at y or above -/
def Anc (q : Nat → Int) (x y : Nat) : Prop := ∃ s, it q s y = x
theorem Anc.refl (q : Nat → Int) (x : Nat) : Anc q x x := ⟨0, rfl⟩
section
variable {n : Nat} {q : Nat → Int} {dep : Nat → Nat}
theorem Up.it_end (U : Up n q dep) : ∀ (s i : Nat), i < n → dep i < s → it q s i = -1
  | 0, _, _, h => absurd h (by omega)
  | s + 1, i, hi, h => by
    rw [it, if_neg (by omega)]
    rw [Int.toNat_natCast]
    rcases U.par i hi with ⟨h1, _⟩ | ⟨k, hk, h1, h2⟩
    · rw [h1, it_neg]
    · rw [h1]; exact U.it_end s k hk (by omega)
theorem Up.it_in (U : Up n q dep) : ∀ (s i : Nat), i < n → s ≤ dep i → ∃ k : Nat, k < n ∧ it q s i = k ∧ dep k + s = dep i
  | 0, i, hi, _ => ⟨i, hi, rfl, by omega⟩
  | s + 1, i, hi, h => by
    rcases U.par i hi with ⟨_, h2⟩ | ⟨k, hk, h1, h2⟩
    · omega
    · obtain ⟨j, hj, h3, h4⟩ := U.it_in s k hk (by omega)
      refine ⟨j, hj, ?_, by omega⟩
      rw [it, if_neg (by omega), Int.toNat_natCast, h1, h3]
theorem Up.anc_dep (U : Up n q dep) {x y : Nat} (hy : y < n) (h : Anc q x y) : x < n ∧ dep x ≤ dep y ∧ (dep x = dep y → x = y) := by
  obtain ⟨s, hs⟩ := h
  by_cases hd : s ≤ dep y
  · obtain ⟨k, hk, h1, h2⟩ := U.it_in s y hy hd
    have : x = k := by omega
    subst this
    refine ⟨hk, by omega, fun e => ?_⟩
    have : s = 0 := by omega
    subst this
    have : (y : Int) = x := by simpa [it] using hs
    omega
  · rw [U.it_end s y hy (by omega)] at hs
    omega
theorem anc_up {x y : Nat} {k : Nat} (h : q y = k) : Anc q x y ↔ x = y ∨ Anc q x k := by
  constructor
  · rintro ⟨s, hs⟩
    cases s with
    | zero => left; have : (y : Int) = x := by simpa [it] using hs
              omega
    | succ s => right; refine ⟨s, ?_⟩; rw [it, if_neg (by omega), Int.toNat_natCast, h] at hs; exact hs
  · rintro (rfl | ⟨s, hs⟩)
    · exact .refl q x
    · exact ⟨s + 1, by rw [it, if_neg (by omega), Int.toNat_natCast, h]; exact hs⟩
theorem Up.dep_root (U : Up n q dep) {i j : Nat} (hi : i < n) (hj : j < n) (h1 : dep i = 0) (h2 : dep j = 0) : i = j := by
  rcases U.par i hi with ⟨e1, _⟩ | ⟨k, _, _, e⟩
  · rcases U.par j hj with ⟨e2, _⟩ | ⟨k, _, _, e⟩
    · exact U.root i j hi hj e1 e2
    · omega
  · omega
theorem Up.anc_par (U : Up n q dep) {x a d k : Nat} (ha : a < n) (hd : d < n) (hlt : dep a < dep d) (h : q d = k) :
    (Anc q x a ∧ Anc q x d) ↔ (Anc q x a ∧ Anc q x k) := by
  rw [anc_up h]
  constructor
  · rintro ⟨h1, rfl | h2⟩
    · have := (U.anc_dep ha h1).2.1; omega
    · exact ⟨h1, h2⟩
  · rintro ⟨h1, h2⟩; exact ⟨h1, .inr h2⟩
theorem Up.anc_both (U : Up n q dep) {x a d k l : Nat} (ha : a < n) (hd : d < n) (he : dep a = dep d) (hne : a ≠ d) (h : q a = k) (h' : q d = l) :
    (Anc q x a ∧ Anc q x d) ↔ (Anc q x k ∧ Anc q x l) := by
  rw [anc_up h, anc_up h']
  constructor
  · rintro ⟨h1 | h1, h2 | h2⟩
    · omega
    · subst h1
      have := (U.anc_dep hd ((anc_up h').2 (.inr h2))).2.2 he; omega
    · subst h2
      have := (U.anc_dep ha ((anc_up h).2 (.inr h1))).2.2 he.symm; omega
    · exact ⟨h1, h2⟩
  · rintro ⟨h1, h2⟩; exact ⟨.inr h1, .inr h2⟩

/-! ### from the checks of treeB1TreeIndex -/
/-- how many steps to -1, at most f -/
def dp (q : Nat → Int) : Nat → Int → Nat
  | 0, _ => 0
  | f + 1, i => if i < 0 then 0 else dp q f (q i.toNat) + 1
theorem dp_stay (q : Nat → Int) : ∀ (s f : Nat) (i : Int), it q s i = -1 → s ≤ f → dp q f i = dp q s i
  | 0, f, i, h, _ => by
    have : i = -1 := h
    subst this
    cases f <;> simp [dp]
  | s + 1, f, i, h, hf => by
    obtain ⟨g, rfl⟩ : ∃ g, f = g + 1 := ⟨f - 1, by omega⟩
    by_cases hi : i < 0
    · simp [dp, hi]
    · simp only [dp, if_neg hi]
      rw [it, if_neg hi] at h
      rw [dp_stay q s g _ h (by omega)]
theorem dp_le (q : Nat → Int) : ∀ (f : Nat) (i : Int), dp q f i ≤ f
  | 0, _ => Nat.le_refl _
  | f + 1, i => by
    have := dp_le q f (q i.toNat)
    simp only [dp]; split <;> omega
theorem Up.of (hp : ∀ i, i < n → q i = -1 ∨ ∃ k : Nat, k < n ∧ q i = k) (hr : ∀ i : Nat, i < n → it q (n + 1) i = -1)
    (hroot : ∀ i j, i < n → j < n → q i = -1 → q j = -1 → i = j) : Up n q (fun i => dp q (n + 1) i - 1) where
  par := fun i hi => by
    have e : dp q (n + 1) (i : Nat) = dp q n (q i) + 1 := by
      rw [dp, if_neg (by omega), Int.toNat_natCast]
    rcases hp i hi with h | ⟨k, hk, h⟩
    · refine .inl ⟨h, ?_⟩
      show dp q (n + 1) i - 1 = 0
      rw [e, h]
      cases n <;> simp [dp]
    · refine .inr ⟨k, hk, h, ?_⟩
      show dp q (n + 1) i - 1 = dp q (n + 1) k - 1 + 1
      have h1 := hr i hi
      rw [it, if_neg (by omega), Int.toNat_natCast, h] at h1
      rw [e, h, ← dp_stay q n (n + 1) k h1 (by omega)]
      have : 0 < dp q (n + 1) (k : Nat) := by rw [dp, if_neg (by omega)]; omega
      omega
  lim := fun i _ => by
    have := dp_le q (n + 1) i
    show dp q (n + 1) i - 1 ≤ n
    omega
  root := hroot
end

/-! ### counting -/
def cnt (p : Nat → Bool) : Nat → Nat
  | 0 => 0
  | k + 1 => cnt p k + if p k then 1 else 0
theorem cnt_mono (p : Nat → Bool) {a b : Nat} (h : a ≤ b) : cnt p a ≤ cnt p b := by
  induction b with
  | zero => have : a = 0 := by omega
            subst this; exact Nat.le_refl _
  | succ b ih =>
    by_cases e : a = b + 1
    · subst e; exact Nat.le_refl _
    · have := ih (by omega)
      simp only [cnt]; omega
theorem cnt_le (p : Nat → Bool) : ∀ k, cnt p k ≤ k
  | 0 => Nat.le_refl _
  | k + 1 => by have := cnt_le p k
                simp only [cnt]; split <;> omega
theorem cnt_one {p : Nat → Bool} {n i j : Nat} (h : cnt p n = 1) (hi : i < n) (hj : j < n) (pi : p i = true) (pj : p j = true) : i = j := by
  have key : ∀ a b, a < b → b < n → p a = true → p b = true → False := by
    intro a b hab hb pa pb
    have h1 := cnt_mono p (show a + 1 ≤ b by omega)
    have h2 := cnt_mono p (show b + 1 ≤ n by omega)
    simp only [cnt, pa, pb, if_true] at h1 h2
    omega
  rcases Nat.lt_trichotomy i j with e | e | e
  · exact (key i j e hj pi pj).elim
  · exact e
  · exact (key j i e hi pj pi).elim
end Go.Proofs.Qxb6000409a
