import Derived.Test.Qxb6600053aCd
import Derived.Test.Qxb6600053aL
namespace Go.Proofs.Qxb6600053a

/-! ### The plain law of cut -/
def inB (n : Nat) (p : Nat → Nat) (q : (Nat → Nat) × (Nat → Nat)) : Bool := allB n (hoP q.1 q.2 p)
def cnt (n : Nat) (p : Nat → Nat) (Ps : List ((Nat → Nat) × (Nat → Nat))) : Nat := Ps.countP (inB n p)
def one (b : Bool) : Nat := if b = true then 1 else 0

theorem bool_eq {a b : Bool} (h : a = true ↔ b = true) : a = b := Bool.eq_iff_iff.2 h

/-- one dimension apart -/
theorem split_at {n d : Nat} {f g : Nat → Bool} (hd : d < n) (h : ∀ i, i ≠ d → f i = g i) : allB n f = (allB n (fun i => i == d || g i) && f d) := by
  apply bool_eq
  rw [Bool.and_eq_true, allB_iff, allB_iff]
  constructor
  · intro hf
    refine ⟨fun i hi => ?_, hf d hd⟩
    by_cases e : i = d
    · simp [e]
    · simp [← h i e, hf i hi]
  · rintro ⟨h1, h2⟩ i hi
    by_cases e : i = d
    · exact e ▸ h2
    · have := h1 i hi
      simp [e] at this
      rw [h i e]; exact this

/-- the tests as numbers; a NaN is in nothing -/
theorem ho_none {l h p : Nat → Nat} {i : Nat} (hx : key (p i) = none) : hoP l h p i = false := by
  unfold hoP fo
  rw [order_key, order_key, hx]
  cases key (l i) <;> simp [cmpO]
theorem ho_num {l h p : Nat → Nat} {i : Nat} {a b x : Int} (hl : key (l i) = some a) (hh : key (h i) = some b) (hx : key (p i) = some x) : hoP l h p i = decide (a ≤ x ∧ x < b) := by
  unfold hoP
  rw [b_lt hl hx, b_eq hl hx, b_lt hx hh]
  apply bool_eq
  simp; omega
theorem wf_num {x y : Nat → Nat} {i : Nat} (h : wfP x y i = true) : ∃ a b : Int, key (x i) = some a ∧ key (y i) = some b ∧ a < b := by
  simp only [wfP, beq_iff_eq] at h
  exact ord_lt.1 h

theorem part3 (a b c e x : Int) (l2 : c < e) (o1 : a < e) (o2 : c < b) : (if a < c ∧ a ≤ x ∧ x < c then 1 else 0 : Nat) + (if e < b ∧ e ≤ x ∧ x < b then 1 else 0) + (if (a ≤ x ∧ x < b) ∧ c ≤ x ∧ x < e then 1 else 0) = (if a ≤ x ∧ x < b then 1 else 0) := by
  split <;> split <;> split <;> split <;> omega

section
variable {n : Nat} {zl zh ol oh p : Nat → Nat} {kk : Int} (wz : allB n (wfP zl zh) = true) (wo : allB n (wfP ol oh) = true)

/-- what the rest holds in one dimension -/
theorem rest_at (wz : allB n (wfP zl zh) = true) (wo : allB n (wfP ol oh) = true) {d i : Nat} (hi : i < n) : hoP (rlF zl ol kk d) (rhF zh oh kk d) p i = if i < d ∧ (i : Int) ≠ kk then hoP zl zh p i && hoP ol oh p i else hoP zl zh p i := by
  obtain ⟨a, b, ha, hb, l1⟩ := wf_num (allB_iff.1 wz i hi)
  obtain ⟨c, e, hc, he, l2⟩ := wf_num (allB_iff.1 wo i hi)
  by_cases h : i < d ∧ (i : Int) ≠ kk
  · rw [if_pos h]
    have hlo : key (rlF zl ol kk d i) = some (max a c) := by
      unfold rlF
      rw [b_lt ha hc]
      by_cases ac : a < c
      · rw [if_pos ⟨h.1, h.2, by simpa using ac⟩, hc, Int.max_eq_right (by omega)]
      · rw [if_neg (by simp [ac]), ha, Int.max_eq_left (by omega)]
    have hhi : key (rhF zh oh kk d i) = some (min b e) := by
      unfold rhF
      rw [b_gt hb he]
      by_cases eb : e < b
      · rw [if_pos ⟨h.1, h.2, by simpa using eb⟩, he, Int.min_eq_right (by omega)]
      · rw [if_neg (by simp [eb]), hb, Int.min_eq_left (by omega)]
    cases hx : key (p i) with
    | none => rw [ho_none hx, ho_none hx, ho_none hx]; rfl
    | some x =>
      rw [ho_num hlo hhi hx, ho_num ha hb hx, ho_num hc he hx]
      apply bool_eq
      simp; omega
  · rw [if_neg h]
    have e1 : rlF zl ol kk d i = zl i := by unfold rlF; rw [if_neg (fun hh => h ⟨hh.1, hh.2.1⟩)]
    have e2 : rhF zh oh kk d i = zh i := by unfold rhF; rw [if_neg (fun hh => h ⟨hh.1, hh.2.1⟩)]
    unfold hoP
    rw [e1, e2]

theorem cnt_append (A B : List ((Nat → Nat) × (Nat → Nat))) : cnt n p (A ++ B) = cnt n p A + cnt n p B := List.countP_append
theorem cnt_if (b : Bool) (q : (Nat → Nat) × (Nat → Nat)) : cnt n p (if b = true then [q] else []) = one (b && inB n p q) := by
  cases b <;> cases h : inB n p q <;> simp [cnt, one, h]

/-- the pieces and the rest part the zone -/
theorem pcs_count (wz : allB n (wfP zl zh) = true) (wo : allB n (wfP ol oh) = true) (ov : allB n (ovK zl zh ol oh kk) = true) : ∀ d, d ≤ n → cnt n p (pcs zl zh ol oh kk d) + one (inB n p (rlF zl ol kk d, rhF zh oh kk d)) = one (inB n p (zl, zh))
  | 0, _ => by
    have e1 : rlF zl ol kk 0 = zl := by funext j; simp [rlF]
    have e2 : rhF zh oh kk 0 = zh := by funext j; simp [rhF]
    rw [e1, e2]
    simp [pcs, cnt]
  | d + 1, hd => by
    have ih := pcs_count wz wo ov d (by omega)
    have hdn : d < n := by omega
    rw [← ih]
    by_cases hk : (d : Int) = kk
    · have e0 : pcs zl zh ol oh kk (d + 1) = pcs zl zh ol oh kk d := by simp [pcs, hk]
      have e1 : inB n p (rlF zl ol kk (d + 1), rhF zh oh kk (d + 1)) = inB n p (rlF zl ol kk d, rhF zh oh kk d) := by
        apply bool_eq
        simp only [inB, allB_iff]
        constructor
        · intro h i hi
          have := h i hi
          rw [rest_at wz wo hi] at this ⊢
          by_cases e : i = d
          · subst e; simpa [hk] using this
          · have e' : (i < d + 1) = (i < d) := propext (by omega)
            simp only [e'] at this
            exact this
        · intro h i hi
          have := h i hi
          rw [rest_at wz wo hi] at this ⊢
          by_cases e : i = d
          · subst e; simpa [hk] using this
          · have e' : (i < d + 1) = (i < d) := propext (by omega)
            simp only [e']
            exact this
      rw [e0, e1]
    · obtain ⟨a, b, ha, hb, l1⟩ := wf_num (allB_iff.1 wz d hdn)
      obtain ⟨c, e, hc, he, l2⟩ := wf_num (allB_iff.1 wo d hdn)
      rw [pcs_step hk rfl rfl, cnt_append, cnt_append, cnt_if, cnt_if]
      -- the four boxes, one dimension apart
      have s0 : inB n p (rlF zl ol kk d, rhF zh oh kk d) = (allB n (fun i => i == d || hoP (rlF zl ol kk d) (rhF zh oh kk d) p i) && hoP zl zh p d) := by
        unfold inB
        rw [split_at hdn (fun _ _ => rfl), rest_at wz wo hdn, if_neg (by omega)]
      have s1 : inB n p (rlF zl ol kk (d + 1), rhF zh oh kk (d + 1)) = (allB n (fun i => i == d || hoP (rlF zl ol kk d) (rhF zh oh kk d) p i) && (hoP zl zh p d && hoP ol oh p d)) := by
        apply bool_eq
        unfold inB
        rw [Bool.and_eq_true, allB_iff, allB_iff]
        constructor
        · intro h
          refine ⟨fun i hi => ?_, ?_⟩
          · by_cases ei : i = d
            · simp [ei]
            · have := h i hi
              rw [rest_at wz wo hi] at this
              have e' : (i < d + 1) = (i < d) := propext (by omega)
              simp only [e'] at this
              rw [rest_at wz wo hi]
              simp [this]
          · have := h d hdn
            rw [rest_at wz wo hdn, if_pos ⟨by omega, hk⟩] at this
            exact this
        · rintro ⟨h1, h2⟩ i hi
          rw [rest_at wz wo hi]
          by_cases ei : i = d
          · subst ei; rw [if_pos ⟨by omega, hk⟩]; exact h2
          · have := h1 i hi
            rw [rest_at wz wo hi] at this
            have e' : (i < d + 1) = (i < d) := propext (by omega)
            simp only [e']
            simpa [ei] using this
      have s2 : inB n p (rlF zl ol kk d, fun i => if i = d then ol d else rhF zh oh kk d i) = (allB n (fun i => i == d || hoP (rlF zl ol kk d) (rhF zh oh kk d) p i) && hoP zl ol p d) := by
        unfold inB
        rw [split_at hdn (g := hoP (rlF zl ol kk d) (rhF zh oh kk d) p) (fun i hi => by simp [hoP, hi])]
        congr 1
        simp [hoP, rlF]
      have s3 : inB n p (fun i => if i = d then oh d else rlF zl ol kk (d + 1) i, rhF zh oh kk d) = (allB n (fun i => i == d || hoP (rlF zl ol kk d) (rhF zh oh kk d) p i) && hoP oh zh p d) := by
        unfold inB
        rw [split_at hdn (g := hoP (rlF zl ol kk d) (rhF zh oh kk d) p) (fun i hi => by
          have e' : (i < d + 1) = (i < d) := propext (by omega)
          simp [hoP, hi, rlF, e'])]
        congr 1
        simp [hoP, rhF]
      rw [s0, s1, s2, s3, b_lt ha hc, b_gt hb he]
      cases allB n (fun i => i == d || hoP (rlF zl ol kk d) (rhF zh oh kk d) p i) with
      | false => simp [one]
      | true =>
        cases hx : key (p d) with
        | none => rw [ho_none hx, ho_none hx, ho_none hx, ho_none hx]; simp [one]
        | some x =>
          rw [ho_num ha hb hx, ho_num hc he hx, ho_num ha hc hx, ho_num he hb hx]
          simp only [one, Bool.true_and, Bool.and_eq_true, decide_eq_true_eq]
          have hov := allB_iff.1 ov d hdn
          unfold ovK ovI at hov
          rw [b_lt ha he, b_lt hc hb] at hov
          simp [hk] at hov
          have := part3 a b c e x l2 hov.1 hov.2
          omega

/-- the law -/
theorem cut_count {Ps : List ((Nat → Nat) × (Nat → Nat))} (wz : allB n (wfP zl zh) = true) (wo : allB n (wfP ol oh) = true) (h : CutIs n zl zh ol oh kk Ps) :
    cnt n p Ps = one (allB n (hoP zl zh p) && !allB n (slP ol oh p kk)) := by
  rcases h with ⟨⟨i, hi, hk, ho⟩, rfl⟩ | ⟨hin, rfl⟩ | ⟨ov, rfl⟩
  · have e : cnt n p [(zl, zh)] = one (allB n (hoP zl zh p)) := by
      have := cnt_if (n := n) (p := p) true (zl, zh)
      simpa [inB] using this
    rw [e]
    cases hz : allB n (hoP zl zh p) with
    | false => rfl
    | true =>
      have : allB n (slP ol oh p kk) = false := by
        refine allB_false hi ?_
        simp only [slP, hk, Bool.false_or]
        obtain ⟨a, b, ha, hb, l1⟩ := wf_num (allB_iff.1 wz i hi)
        obtain ⟨c, e, hc, he, l2⟩ := wf_num (allB_iff.1 wo i hi)
        have hzi := allB_iff.1 hz i hi
        cases hx : key (p i) with
        | none => exact ho_none hx
        | some x =>
          rw [ho_num ha hb hx] at hzi
          rw [ho_num hc he hx]
          unfold ovI at ho
          rw [b_lt ha he, b_lt hc hb] at ho
          simp at hzi ho ⊢
          omega
      rw [this]; rfl
  · have e : cnt n p [] = 0 := rfl
    rw [e]
    cases hz : allB n (hoP zl zh p) with
    | false => rfl
    | true =>
      have : allB n (slP ol oh p kk) = true := by
        rw [allB_iff]
        intro i hi
        have hii := allB_iff.1 hin i hi
        unfold slP
        unfold inP at hii
        cases hk : ((i : Int) == kk) with
        | true => rfl
        | false =>
          rw [hk] at hii
          simp only [Bool.false_or] at hii ⊢
          obtain ⟨a, b, ha, hb, l1⟩ := wf_num (allB_iff.1 wz i hi)
          obtain ⟨c, e, hc, he, l2⟩ := wf_num (allB_iff.1 wo i hi)
          have hzi := allB_iff.1 hz i hi
          cases hx : key (p i) with
          | none => rw [ho_none hx] at hzi; cases hzi
          | some x =>
            rw [ho_num ha hb hx] at hzi
            rw [ho_num hc he hx]
            unfold leq at hii
            rw [b_lt hc ha, b_eq hc ha, b_lt hb he, b_eq hb he] at hii
            simp at hzi hii ⊢
            omega
      rw [this]; rfl
  · have h := pcs_count (p := p) (kk := kk) wz wo ov n (Nat.le_refl _)
    have e : inB n p (rlF zl ol kk n, rhF zh oh kk n) = (allB n (hoP zl zh p) && allB n (slP ol oh p kk)) := by
      apply bool_eq
      rw [Bool.and_eq_true]
      simp only [inB, allB_iff]
      constructor
      · intro h
        refine ⟨fun i hi => ?_, fun i hi => ?_⟩
        · have := h i hi
          rw [rest_at wz wo hi] at this
          split at this
          · exact (Bool.and_eq_true _ _ ▸ this).1
          · exact this
        · have := h i hi
          rw [rest_at wz wo hi] at this
          unfold slP
          by_cases hk : (i : Int) = kk
          · simp [hk]
          · rw [if_pos ⟨hi, hk⟩] at this
            simp at this
            simp [this.2]
      · rintro ⟨h1, h2⟩ i hi
        rw [rest_at wz wo hi]
        split
        · rename_i hc
          have := h2 i hi
          unfold slP at this
          simp [hc.2] at this
          simp [h1 i hi, this]
        · exact h1 i hi
    rw [e] at h
    have e3 : inB n p (zl, zh) = allB n (hoP zl zh p) := rfl
    rw [e3] at h
    cases hz : allB n (hoP zl zh p) <;> cases hs : allB n (slP ol oh p kk) <;> rw [hz, hs] at h <;> simp [one] at h ⊢ <;> omega
end
end Go.Proofs.Qxb6600053a
