import Derived.Test.Qxb6600057aF
namespace Go.Proofs.Qxb6600057a
open Go.RowKit

set_option maxRecDepth 100000 in
set_option maxHeartbeats 3200000 in
theorem onset_walk (a : Option Addr) (n c : Nat) (x : Nat → ByteArray) (t : ByteArray) (w : World) (h0 : SRow w a n x) : Calls Try.prog 5 #[.slice a n c, .string t] w (Law w) := by
  have H0 := hide h0
  clear h0
  go_enter Try.func5, Try.ntmps5
  go_wp2_with fail
  refine (bytes14 a n c x t _ H0.out).mono ?_
  rintro e w ⟨q, rfl, hq, rfl⟩
  cases q with
  | false =>
    clear hq
    go_wp2
    go_ret
    exact .mk (Below.refl _ _)
  | true =>
  obtain ⟨ht, hS⟩ := hq rfl
  have HS := hide hS
  clear hq hS
  by_cases hn : n ≤ 65536
  case neg =>
    go_wp2
    go_ret
    exact .mk (Below.refl _ _)
  go_wp2_with fail
  refine (fits7 a n c x t _ hn ht HS.out H0.out).mono ?_
  rintro e w ⟨q, rfl, rfl⟩
  cases q with
  | false =>
    go_wp2
    go_ret
    exact .mk (Below.refl _ _)
  | true =>
  go_wp2_with fail
  refine (strict15b a n c x _ (by omega) H0.out).mono ?_
  rintro e w1 ⟨q, rfl, hq, b1⟩
  have B1 := hide b1
  have R1 := hide (H0.out.below b1)
  clear b1 H0 HS
  cases q with
  | false =>
    clear hq
    go_wp2
    go_ret
    exact .mk B1.out
  | true =>
  have HA := hide (hq.1 rfl)
  clear hq
  go_wp2_with fail
  refine (copy9 a n c x _ (by omega) R1.out).mono ?_
  rintro e w2 ⟨a2, c2, rfl, _, r2, b2⟩
  have B2 := hide (B1.out.trans (b2.mono B1.out.size))
  have R2 := hide r2
  clear b2 r2 R1 B1
  go_wp2_with fail
  refine (zz10 a2 n c2 x t _ (by omega) R2.out HA.out.asc).mono ?_
  rintro e w3 hz
  have key : ∃ (a' : Option Addr) (n' c' : Nat) (y : Nat → ByteArray) (h : Bool), e = .returned (.tuple #[.slice a' n' c', .bool h]) ∧ n' ≤ n ∧ (n' : Int) = (if h then (n : Int) - 1 else n) ∧ Hid (SRow w3 a' n' y) ∧ Hid (Strict n' y) ∧ Hid (∀ k, k < n' → y k ≠ t) ∧ Hid (Below w2.heap.size w2 w3) := by
    rcases hz with ⟨h1, rfl, rfl⟩ | ⟨p, g, cap, h1, h2, h3, rfl, h5, h6⟩
    · exact ⟨a2, n, c2, x, false, rfl, Nat.le_refl _, rfl, R2, HA, h1, Below.refl _ _⟩
    · exact ⟨_, n - 1, cap, del x p, true, rfl, by omega, by show ((n - 1 : Nat) : Int) = (n : Int) - 1; omega, .inr ⟨_, _, rfl, h5⟩, HA.out.del h1, fun k hk e => HA.out.gone h1 k hk (e.trans h2.symm), h6⟩
  clear hz
  obtain ⟨a', n', c', y, h, rfl, hn', hnn, R3, HA3, HN3, b3⟩ := key
  have B3 := hide (B2.out.trans (b3.out.mono B2.out.size))
  have HNN := hide hnn
  clear b3 B2 R2 HA hnn
  go_wp2_with fail
  refine (strict15b a' n' c' y _ (by omega) R3.out).mono ?_
  rintro e w4 ⟨q, rfl, hq, b4⟩
  have hq' := hq.2 HA3.out
  subst hq'
  have B4 := hide (B3.out.trans (b4.mono B3.out.size))
  have R4 := hide (R3.out.below b4)
  clear hq b4 B3 R3
  go_wp2_with fail
  refine (contains13 a' n' c' y t _ (by omega) R4.out).mono ?_
  rintro e w4 ⟨q, rfl, hq, rfl⟩
  have hq' : q = false := by
    rw [Bool.eq_false_iff]
    intro e
    obtain ⟨k, hk, e⟩ := hq.1 e
    exact HN3.out k hk e
  subst hq'
  clear hq
  cases h
  case' true =>
    have hnn : (n : Int) - 1 = n' := HNN.out.symm
    go_wp2_with fail
  case' false =>
    have hnn : n = n' := by have : (n' : Int) = n := HNN.out; omega
    subst hnn
    go_wp2_with fail
  case true =>
    refine (copy9 a' n' c' y _ (by omega) R4.out).mono ?_
    rintro e w5 ⟨a5, c5, rfl, _, r5, b5⟩
    have B5 := hide (B4.out.trans (b5.mono B4.out.size))
    have R5 := hide (R4.out.below b5)
    have C5 := hide r5
    clear b5 r5 B4 R4
    go_wp2_with fail
    refine (zz10 a' n' c' y t _ (by omega) R5.out HA3.out.asc).mono ?_
    rintro e w5 (⟨_, rfl, rfl⟩ | ⟨p, g, cap, h1, h2, h3, _, _, _⟩)
    case inr => exact absurd h2 (HN3.out p h1)
    go_wp2_with fail
    refine (equal11b a' a5 n' c' n' c5 y y _ (by omega) (by omega) R5.out C5.out).mono ?_
    rintro e w6 ⟨q, rfl, hq, b6⟩
    have hq' := hq.2 ⟨rfl, fun _ _ => rfl⟩
    subst hq'
    have B6 := hide (B5.out.trans (b6.mono B5.out.size))
    have R6 := hide (R5.out.below b6)
    have C6 := hide (C5.out.below b6)
    clear hq b6 B5 R5 C5
    go_wp2_with fail
    refine (equal11b a' a5 n' c' n' c5 y y _ (by omega) (by omega) R6.out C6.out).mono ?_
    rintro e w7 ⟨q, rfl, hq, b7⟩
    have hq' := hq.2 ⟨rfl, fun _ _ => rfl⟩
    subst hq'
    have B7 := hide (B6.out.trans (b7.mono B6.out.size))
    clear hq b7
    go_wp2
    go_ret
    exact .mk B7.out
  case false =>
    refine (copy9 a' n c' y _ (by omega) R4.out).mono ?_
    rintro e w5 ⟨a5, c5, rfl, _, r5, b5⟩
    have B5 := hide (B4.out.trans (b5.mono B4.out.size))
    have R5 := hide (R4.out.below b5)
    have C5 := hide r5
    clear b5 r5 B4 R4
    go_wp2_with fail
    refine (zz10 a' n c' y t _ (by omega) R5.out HA3.out.asc).mono ?_
    rintro e w5 (⟨_, rfl, rfl⟩ | ⟨p, g, cap, h1, h2, h3, _, _, _⟩)
    case inr => exact absurd h2 (HN3.out p h1)
    go_wp2_with fail
    refine (equal11b a' a5 n c' n c5 y y _ (by omega) (by omega) R5.out C5.out).mono ?_
    rintro e w6 ⟨q, rfl, hq, b6⟩
    have hq' := hq.2 ⟨rfl, fun _ _ => rfl⟩
    subst hq'
    have B6 := hide (B5.out.trans (b6.mono B5.out.size))
    have R6 := hide (R5.out.below b6)
    have C6 := hide (C5.out.below b6)
    clear hq b6 B5 R5 C5
    go_wp2_with fail
    refine (equal11b a' a5 n c' n c5 y y _ (by omega) (by omega) R6.out C6.out).mono ?_
    rintro e w7 ⟨q, rfl, hq, b7⟩
    have hq' := hq.2 ⟨rfl, fun _ _ => rfl⟩
    subst hq'
    have B7 := hide (B6.out.trans (b7.mono B6.out.size))
    clear hq b7
    go_wp2
    go_ret
    exact .mk B7.out
end Go.Proofs.Qxb6600057a
