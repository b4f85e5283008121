import Derived.Test.Qxb6600057aC
namespace Go.Proofs.Qxb6600057a
open Go.RowKit

/-! ### without -/
/-- what 'without' answers: t is not there, or a new row without its first -/
def WoRes (a : Option Addr) (n c : Nat) (x : Nat → ByteArray) (t : ByteArray) (w : World) (e : Ending) (w' : World) : Prop :=
  ((∀ k, k < n → x k ≠ t) ∧ e = .returned (.tuple #[.slice a n c, .bool false]) ∧ w' = w) ∨
  ∃ p g cap, p < n ∧ x p = t ∧ (∀ k, k < p → x k ≠ t) ∧ e = .returned (.tuple #[.slice (some ⟨g, 0, none⟩) (n - 1 : Nat) cap, .bool true]) ∧ SAt w' g 0 (n - 1) (del x p) ∧ Below w.heap.size w w'
theorem ne_of_slt {a b : ByteArray} (h : slt a b = true) : a ≠ b := fun e => by rw [e, slt_irrefl] at h; cases h
theorem Place.found_iff {n p : Nat} {x : Nat → ByteArray} {t : ByteArray} (h : Place n x t p) (hf : found n x t p = true) : p < n ∧ x p = t ∧ ∀ k, k < p → x k ≠ t := by
  unfold found at hf
  rw [Bool.and_eq_true, decide_eq_true_iff, seq_iff] at hf
  exact ⟨hf.1, hf.2, fun k hk => ne_of_slt (h.less k hk)⟩
theorem Place.found_not {n p : Nat} {x : Nat → ByteArray} {t : ByteArray} (h : Place n x t p) (hs : Asc n x) (hf : found n x t p = false) : ∀ k, k < n → x k ≠ t := fun k hk e => by
  have hpk : p ≤ k := by
    by_cases hkp : k < p
    · exact absurd e (ne_of_slt (h.less k hkp))
    · omega
  have h1 := hs.le hpk hk
  rw [e] at h1
  have h2 := h.not p (Nat.le_refl _) (by omega)
  have h3 := slt_tri h2 h1
  unfold found at hf
  rw [h3, seq_self, Bool.and_true, decide_eq_false_iff_not] at hf
  omega
set_option maxHeartbeats 400000 in
theorem without16 (a : Option Addr) (n c : Nat) (x : Nat → ByteArray) (t : ByteArray) (w : World) (hn : n ≤ 1048576) (h0 : SRow w a n x) (hs : Asc n x) :
    Calls Try.prog 16 #[.slice a n c, .string t] w (WoRes a n c x t w) := by
  have HS := hide hs
  have H0 := hide h0
  clear hs h0
  go_enter Try.func16, Try.ntmps16
  go_wp2_with fail
  refine (bs_any a n c x t _ hn H0.out HS.out).mono ?_
  rintro e w ⟨p, hp, rfl, rfl⟩
  have HP := hide hp
  clear hp
  rcases Bool.eq_false_or_eq_true (found n x t p) with hf | hf
  · obtain ⟨q1, q2, q3⟩ := HP.out.found_iff hf
    have Q2 := hide q2
    have Q3 := hide q3
    clear q2 q3
    rcases H0.out with e | ⟨b, f, rfl, h0⟩
    · omega
    have HA := hide h0
    clear h0 H0
    go_wp2_with fail
    refine (clone19 b f n c x _ (by omega) hn HA.out).mono ?_
    rintro e w1 ⟨g, cap, rfl, hg, hc, _, hfree, hb⟩
    have HF := hide hfree
    have HB := hide hb
    clear hfree hb
    obtain ⟨j, hj⟩ : ∃ j, j = p + 1 := ⟨_, rfl⟩
    have EJ : Hid ((p : Int) + 1 = (j : Int)) := by show _ = _; omega
    have HJ := hide hj
    clear hj
    go_wp2_with fail
    rw [EJ.out]
    refine (delete18 g n cap p j HJ.out x _ hn q1 hc HF.out).mono ?_
    rintro e w2 ⟨rfl, hat, hb2⟩
    have HT := hide hat
    have HB2 := hide (HB.out.trans (hb2.mono hg))
    clear hat hb2
    go_wp2
    go_ret2
    exact .inr ⟨p, g, cap, q1, Q2.out, Q3.out, rfl, HT.out, HB2.out⟩
  · have Q := hide (HP.out.found_not HS.out hf)
    go_wp2
    go_ret2
    exact .inl ⟨Q.out, rfl, rfl⟩

theorem zz10 (a : Option Addr) (n c : Nat) (x : Nat → ByteArray) (t : ByteArray) (w : World) (hn : n ≤ 1048576) (h0 : SRow w a n x) (hs : Asc n x) :
    Calls Try.prog 10 #[.slice a n c, .string t] w (WoRes a n c x t w) := by
  have HS := hide hs
  have H0 := hide h0
  clear hs h0
  go_enter Try.func10, Try.ntmps10
  go_wp2_with fail
  refine (without16 a n c x t _ hn H0.out HS.out).mono ?_
  rintro e w' (⟨h1, rfl, rfl⟩ | ⟨p, g, cap, h1, h2, h3, rfl, h5, h6⟩)
  · have Q := hide h1
    clear h1
    go_wp2
    go_ret2
    exact .inl ⟨Q.out, rfl, rfl⟩
  · have Q2 := hide h2
    have Q3 := hide h3
    have Q5 := hide h5
    have Q6 := hide h6
    clear h2 h3 h5 h6
    go_wp2
    go_ret2
    exact .inr ⟨p, g, cap, h1, Q2.out, Q3.out, rfl, Q5.out, Q6.out⟩
end Go.Proofs.Qxb6600057a
