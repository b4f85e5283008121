import Derived.Test.Qxb6600053aF
import Derived.Test.Qxb6600053aB
import Derived.Test.Qxb6600053aP
namespace Go.Proofs.Qxb6600053a

section
variable {x y : Nat} {a b : Int}
theorem b_lt (hx : key x = some a) (hy : key y = some b) : (fo x y == some .lt) = decide (a < b) := by
  unfold fo; rw [order_key, hx, hy]
  simp only [cmpO]
  by_cases h : a < b
  · rw [cmp_lt h]; simp [h]
  · by_cases h' : a = b
    · rw [cmp_eq h']; simp [h]
    · rw [cmp_gt (by omega)]; simp [h]
theorem b_eq (hx : key x = some a) (hy : key y = some b) : (fo x y == some .eq) = decide (a = b) := by
  unfold fo; rw [order_key, hx, hy]
  simp only [cmpO]
  by_cases h : a < b
  · rw [cmp_lt h]; have : ¬ a = b := by omega
    simp [this]
  · by_cases h' : a = b
    · rw [cmp_eq h']; simp [h']
    · rw [cmp_gt (by omega)]; simp [h']
theorem b_gt (hx : key x = some a) (hy : key y = some b) : (fo x y == some .gt) = decide (b < a) := by
  unfold fo; rw [order_key, hx, hy]
  simp only [cmpO]
  by_cases h : a < b
  · rw [cmp_lt h]; have : ¬ b < a := by omega
    simp [this]
  · by_cases h' : a = b
    · rw [cmp_eq h']; have : ¬ b < a := by omega
      simp [this]
    · rw [cmp_gt (by omega)]; have : b < a := by omega
      simp [this]
theorem fo_ne_none (hx : key x = some a) (hy : key y = some b) : fo x y ≠ none := by
  unfold fo; rw [order_key, hx, hy]; simp [cmpO]
theorem key_fmax (hx : key x = some a) (hy : key y = some b) : key (fmax x y) = some (max a b) := by
  unfold fmax fo
  rw [order_key, hx, hy]
  simp only [cmpO]
  by_cases h : a < b
  · rw [cmp_lt h]; simp only; rw [hy, Int.max_eq_right (by omega)]
  · by_cases h' : a = b
    · rw [cmp_eq h']; simp only; split
      · rw [hy, Int.max_eq_right (by omega)]
      · rw [hx, Int.max_eq_left (by omega)]
    · rw [cmp_gt (by omega)]; simp only; rw [hx, Int.max_eq_left (by omega)]
theorem key_fmin (hx : key x = some a) (hy : key y = some b) : key (fmin x y) = some (min a b) := by
  unfold fmin fo
  rw [order_key, hx, hy]
  simp only [cmpO]
  by_cases h : a < b
  · rw [cmp_lt h]; simp only; rw [hx, Int.min_eq_left (by omega)]
  · by_cases h' : a = b
    · rw [cmp_eq h']; simp only; split
      · rw [hx, Int.min_eq_left (by omega)]
      · rw [hy, Int.min_eq_right (by omega)]
    · rw [cmp_gt (by omega)]; simp only; rw [hy, Int.min_eq_right (by omega)]
end

/-- the law's hypotheses in one dimension: numbers -/
theorem nums_of {zl zh bl bh en : Nat → Nat} {i : Nat} (h1 : wfP zl zh i = true) (h2 : wfP bl bh i = true) (h3 : ovP zl zh bl bh i = true) (h4 : hoP bl bh en i = true) :
    ∃ a b c d e : Int, key (zl i) = some a ∧ key (zh i) = some b ∧ key (bl i) = some c ∧ key (bh i) = some d ∧ key (en i) = some e ∧ a < b ∧ c < d ∧ a < d ∧ c < b ∧ c ≤ e ∧ e < d := by
  simp only [wfP, ovP, hoP, Bool.and_eq_true, Bool.or_eq_true, beq_iff_eq] at h1 h2 h3 h4
  obtain ⟨a, b, ha, hb, l1⟩ := ord_lt.1 h1
  obtain ⟨c, d, hc, hd, l2⟩ := ord_lt.1 h2
  obtain ⟨a', d', ha', hd', l3⟩ := ord_lt.1 h3.1
  obtain ⟨c', b', hc', hb', l4⟩ := ord_lt.1 h3.2
  obtain ⟨e, d'', he, hd'', l5⟩ := ord_lt.1 h4.2
  rw [ha] at ha'; rw [hb] at hb'; rw [hc] at hc'; rw [hd] at hd' hd''
  obtain rfl := Option.some.inj ha'
  obtain rfl := Option.some.inj hb'
  obtain rfl := Option.some.inj hc'
  obtain rfl := Option.some.inj hd'
  obtain rfl := Option.some.inj hd''
  refine ⟨a, b, c, d, e, ha, hb, hc, hd, he, l1, l2, l3, l4, ?_, l5⟩
  rcases h4.1 with h | h
  · obtain ⟨c', e', hc', he', l⟩ := ord_lt.1 h
    rw [hc] at hc'; rw [he] at he'
    obtain rfl := Option.some.inj hc'
    obtain rfl := Option.some.inj he'
    omega
  · obtain ⟨c', hc', he'⟩ := ord_eq.1 h
    rw [hc] at hc'; rw [he] at he'
    have := Option.some.inj hc'
    have := Option.some.inj he'
    omega

/-- what is true in one dimension -/
structure Dim (zl zh bl bh en lo hi : Nat → Nat) (i : Nat) : Prop where
  inz : hoP zl zh en i = !msF en lo hi i
  same : msF en lo hi i = false → (fo (atF en lo hi i) (en i) == some .eq) = true ∧ blF en lo hi i = false
  inb : posB (bl i) (bh i) (atF en lo hi i) (blF en lo hi i) = true
  inb' : msF en lo hi i = true → posB (bl i) (bh i) (atF en lo hi i) (!blF en lo hi i) = true
  pz : posB (zl i) (zh i) (atF en lo hi i) (blF en lo hi i) = true
  pz' : msF en lo hi i = true → posB (zl i) (zh i) (atF en lo hi i) (!blF en lo hi i) = false

theorem dim_of {zl zh bl bh en : Nat → Nat} {i : Nat} (h1 : wfP zl zh i = true) (h2 : wfP bl bh i = true) (h3 : ovP zl zh bl bh i = true) (h4 : hoP bl bh en i = true) :
    Dim zl zh bl bh en (fun i => fmax (zl i) (bl i)) (fun i => fmin (zh i) (bh i)) i := by
  obtain ⟨a, b, c, d, e, ha, hb, hc, hd, he, l1, l2, l3, l4, l5, l6⟩ := nums_of h1 h2 h3 h4
  have hlo := key_fmax ha hc
  have hhi := key_fmin hb hd
  have hL : isLo en (fun i => fmax (zl i) (bl i)) i = decide (e < max a c) := b_lt he hlo
  have hH : isHi en (fun i => fmin (zh i) (bh i)) i = decide (min b d ≤ e) := by
    unfold isHi
    rw [b_gt he hhi, b_eq he hhi]
    rw [Bool.eq_iff_iff]
    simp; omega
  have hz : hoP zl zh en i = decide (a ≤ e ∧ e < b) := by
    unfold hoP
    rw [b_lt ha he, b_eq ha he, b_lt he hb, Bool.eq_iff_iff]
    simp; omega
  have pos : ∀ {x y : Nat} {p q r : Int} {v : Nat} (bl : Bool), key x = some p → key y = some q → key v = some r → posB x y v bl = if bl then decide (p < r ∧ r ≤ q) else decide (p ≤ r ∧ r < q) := by
    intro x y p q r v bl hx hy hv
    unfold posB
    rw [b_lt hx hv, b_lt hv hy, b_eq hv hy, b_eq hx hv]
    cases bl
    · simp only [Bool.false_eq_true, if_false]; rw [Bool.eq_iff_iff]; simp; omega
    · simp only [if_true]; rw [Bool.eq_iff_iff]; simp; omega
  by_cases cl : e < max a c
  · have t1 : isLo en (fun i => fmax (zl i) (bl i)) i = true := by rw [hL]; simpa using cl
    have ka : atF en (fun i => fmax (zl i) (bl i)) (fun i => fmin (zh i) (bh i)) i = fmax (zl i) (bl i) := by simp [atF, t1]
    have kb : blF en (fun i => fmax (zl i) (bl i)) (fun i => fmin (zh i) (bh i)) i = false := by simp [blF, t1]
    have km : msF en (fun i => fmax (zl i) (bl i)) (fun i => fmin (zh i) (bh i)) i = true := by simp [msF, t1]
    refine ⟨?_, ?_, ?_, fun _ => ?_, ?_, fun _ => ?_⟩
    · rw [hz, km]; simp; omega
    · rw [km]; intro h; exact absurd h (by simp)
    · rw [ka, kb, pos _ hc hd hlo]; simp; omega
    · rw [ka, kb, pos _ hc hd hlo]; simp; omega
    · rw [ka, kb, pos _ ha hb hlo]; simp; omega
    · rw [ka, kb, pos _ ha hb hlo]; simp; omega
  · have t1 : isLo en (fun i => fmax (zl i) (bl i)) i = false := by rw [hL]; simpa using cl
    by_cases ch : min b d ≤ e
    · have t2 : isHi en (fun i => fmin (zh i) (bh i)) i = true := by rw [hH]; simpa using ch
      have ka : atF en (fun i => fmax (zl i) (bl i)) (fun i => fmin (zh i) (bh i)) i = fmin (zh i) (bh i) := by simp [atF, t1, t2]
      have kb : blF en (fun i => fmax (zl i) (bl i)) (fun i => fmin (zh i) (bh i)) i = true := by simp [blF, t1, t2]
      have km : msF en (fun i => fmax (zl i) (bl i)) (fun i => fmin (zh i) (bh i)) i = true := by simp [msF, t2]
      refine ⟨?_, ?_, ?_, fun _ => ?_, ?_, fun _ => ?_⟩
      · rw [hz, km]; simp; omega
      · rw [km]; intro h; exact absurd h (by simp)
      · rw [ka, kb, pos _ hc hd hhi]; simp; omega
      · rw [ka, kb, pos _ hc hd hhi]; simp; omega
      · rw [ka, kb, pos _ ha hb hhi]; simp; omega
      · rw [ka, kb, pos _ ha hb hhi]; simp; omega
    · have t2 : isHi en (fun i => fmin (zh i) (bh i)) i = false := by rw [hH]; simpa using ch
      have ka : atF en (fun i => fmax (zl i) (bl i)) (fun i => fmin (zh i) (bh i)) i = en i := by simp [atF, t1, t2]
      have kb : blF en (fun i => fmax (zl i) (bl i)) (fun i => fmin (zh i) (bh i)) i = false := by simp [blF, t1, t2]
      have km : msF en (fun i => fmax (zl i) (bl i)) (fun i => fmin (zh i) (bh i)) i = false := by simp [msF, t1, t2]
      refine ⟨?_, fun _ => ⟨?_, kb⟩, ?_, ?_, ?_, ?_⟩
      · rw [hz, km]; simp; omega
      · rw [ka, b_eq he he]; simp
      · rw [ka, kb, pos _ hc hd he]; simp; omega
      · rw [km]; intro h; exact absurd h (by simp)
      · rw [ka, kb, pos _ ha hb he]; simp; omega
      · rw [km]; intro h; exact absurd h (by simp)

end Go.Proofs.Qxb6600053a
