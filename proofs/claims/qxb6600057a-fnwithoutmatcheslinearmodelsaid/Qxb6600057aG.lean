import Derived.Test.Qxb6600057aF
namespace Go.Proofs.Qxb6600057a
open Go.RowKit

set_option maxRecDepth 100000 in
set_option maxHeartbeats 3200000 in
theorem matches_walk (a : Option Addr) (n c : Nat) (x : Nat → ByteArray) (t : ByteArray) (w : World) (h0 : SRow w a n x) : Calls Try.prog 3 #[.slice a n c, .string t] w (Law w) := by
  have H0 := hide h0
  clear h0
  go_enter Try.func3, Try.ntmps3
  go_wp2_with fail
  refine (bytes6 a n c x t _ H0.out).mono ?_
  rintro e w ⟨q, rfl, hq, rfl⟩
  cases q with
  | false =>
    clear hq
    go_wp2
    go_ret
    exact .mk (Below.refl _ _)
  | true =>
  obtain ⟨ht, hS⟩ := hq rfl
  have HS := hide hS
  clear hq hS
  by_cases hn : n ≤ 65536
  case neg =>
    go_wp2
    go_ret
    exact .mk (Below.refl _ _)
  go_wp2_with fail
  refine (fits7 a n c x t _ hn ht HS.out H0.out).mono ?_
  rintro e w ⟨q, rfl, rfl⟩
  cases q with
  | false =>
    go_wp2
    go_ret
    exact .mk (Below.refl _ _)
  | true =>
  go_wp2_with fail
  refine (sorted8b a n c x _ (by omega) H0.out).mono ?_
  rintro e w1 ⟨q, rfl, hq, b1⟩
  have B1 := hide b1
  have R1 := hide (H0.out.below b1)
  clear b1 H0 HS
  cases q with
  | false =>
    clear hq
    go_wp2
    go_ret
    exact .mk B1.out
  | true =>
  have HA := hide (hq.1 rfl)
  clear hq
  go_wp2_with fail
  refine (copy9 a n c x _ (by omega) R1.out).mono ?_
  rintro e w2 ⟨a2, c2, rfl, _, r2, b2⟩
  have B2 := hide (B1.out.trans (b2.mono B1.out.size))
  have R2 := hide r2
  clear b2 r2 R1 B1
  go_wp2_with fail
  refine (copy9 a2 n c2 x _ (by omega) R2.out).mono ?_
  rintro e w3 ⟨a3, c3, rfl, _, r3, b3⟩
  have B3 := hide (B2.out.trans (b3.mono B2.out.size))
  have R3 := hide r3
  have S2 := hide (R2.out.below b3)
  clear b3 r3 R2 B2
  go_wp2_with fail
  refine (zz10 a2 n c2 x t _ (by omega) S2.out HA.out).mono ?_
  rintro e w4 (⟨h1, rfl, rfl⟩ | ⟨p, g, cap, h1, h2, h3, rfl, h5, h6⟩)
  · have HN := hide h1
    clear h1
    go_wp2_with fail
    refine (equal11b a2 a3 n c2 n c3 x x _ (by omega) (by omega) S2.out R3.out).mono ?_
    rintro e w5 ⟨q, rfl, hq, b5⟩
    have hq' := hq.2 ⟨rfl, fun _ _ => rfl⟩
    subst hq'
    have B5 := hide (B3.out.trans (b5.mono B3.out.size))
    have R5 := hide (R3.out.below b5)
    have S5 := hide (S2.out.below b5)
    clear hq b5 R3 S2 B3
    go_wp2
    go_loop [8, 9] (fun kk i => ∃ j : Nat, j ≤ n ∧ i = .int .i64 j ∧ kk = .int .i64 (-1)) (fun _ i => n - (intOf i).toNat)
    case atStart => exact ⟨0, Nat.zero_le _, rfl, rfl⟩
    case round =>
      obtain ⟨j, hj, rfl, rfl⟩ := hrel
      by_cases hlt : j < n
      · rcases R5.out with e | ⟨b, f, rfl, r5⟩
        · omega
        have g0 := r5 j hlt
        have ht' : ((x j).toList == t.toList) = false := seq_false.2 (HN.out j hlt)
        clear r5
        go_wp2
        go_round
        case rel => exact ⟨j + 1, hlt, by go_num, rfl⟩
        case measure => simp [intOf]; omega
      · go_wp2_with fail
        refine (equal11b a2 a3 n c2 n c3 x x _ (by omega) (by omega) S5.out R5.out).mono ?_
        rintro e w6 ⟨q, rfl, hq, b6⟩
        have hq' := hq.2 ⟨rfl, fun _ _ => rfl⟩
        subst hq'
        have B6 := hide (B5.out.trans (b6.mono B5.out.size))
        clear hq b6
        go_wp2
        go_ret
        exact .mk B6.out
  · have HP := hide h2
    have HN := hide h3
    have B4 := hide (B3.out.trans (h6.mono B3.out.size))
    have R4 := hide (R3.out.below h6)
    have S4 := hide (S2.out.below h6)
    have G4 := hide h5
    clear h2 h3 h5 h6 R3 S2 B3
    go_wp2_with fail
    refine (equal11b a2 a3 n c2 n c3 x x _ (by omega) (by omega) S4.out R4.out).mono ?_
    rintro e w5 ⟨q, rfl, hq, b5⟩
    have hq' := hq.2 ⟨rfl, fun _ _ => rfl⟩
    subst hq'
    have B5 := hide (B4.out.trans (b5.mono B4.out.size))
    have G5 := hide (G4.out.below b5)
    obtain ⟨b, f, ea, r5⟩ : ∃ b f, a3 = some ⟨b, f, none⟩ ∧ SAt w5 b f n x := by
      rcases R4.out.below b5 with e | h
      · omega
      · exact h
    subst ea
    have R5 := hide r5
    clear hq b5 R4 S4 G4 B4 r5
    go_wp2
    go_loop [9] (fun i => ∃ j : Nat, j ≤ p ∧ i = .int .i64 j) (fun i => n - (intOf i).toNat)
    case atStart => exact ⟨0, Nat.zero_le _, rfl⟩
    case round =>
      obtain ⟨j, hj, rfl⟩ := hrel
      have hlt : j < n := by omega
      have g0 := R5.out j hlt
      by_cases hjp : j = p
      case neg =>
        have ht' : ((x j).toList == t.toList) = false := seq_false.2 (HN.out j (by omega))
        go_wp2
        go_round
        case rel => exact ⟨j + 1, by omega, by go_num⟩
        case measure => simp [intOf]; omega
      subst hjp
      have ht' : ((x j).toList == t.toList) = true := seq_iff.2 HP.out
      obtain ⟨hmk, hgr⟩ := Gr.start w5 (del x j) n (by omega)
      have HG := hide hgr
      clear hgr
      go_wp2
      clear ht' g0 hmk
      go_loopw [10, 11] (fun s i wr => ∃ (k m : Nat) (a' : Option Addr) (cp : Nat), k ≤ n ∧ i = .int .i64 k ∧ s = .slice a' m cp ∧ m = (if k ≤ j then k else k - 1) ∧ Hid (Gr w5.heap.size w5 (del x j) a' m cp wr)) (fun _ i _ => n - (intOf i).toNat)
      case atStart => exact ⟨0, 0, _, _, Nat.zero_le _, rfl, rfl, by simp, HG⟩
      case round =>
        obtain ⟨k, m, a', cp, hk, rfl, rfl, hm, HG⟩ := hrel
        by_cases hkn : k < n
        · by_cases hkj : k = j
          · subst hkj
            have HM := hide hm
            clear hm
            go_wp2
            go_roundw
            case rel => exact ⟨k + 1, m, a', cp, hkn, by go_num, rfl, by rw [HM.out, if_pos (by omega), if_neg (by omega)]; omega, HG⟩
            case measure => simp [intOf]; omega
          · have hne : ((k : Int) != j) = true := by simp; omega
            have g0 := R5.out.below HG.out.below k hkn
            have hz : del x j m = x k := by
              rw [hm]
              split
              · rw [del_lo (by omega)]
              · rw [del_hi (by omega)]
                congr 1
                omega
            have hm' : m ≤ n := by rw [hm]; split <;> omega
            obtain ⟨g', cap', w', hr, hI'⟩ := HG.out.add (Nat.le_refl _) (by omega) hz
            have HM := hide hm
            have HI' := hide hI'
            have HK := hide hkj
            clear hz hI' hm hkj
            go_wp2_with (at_builtin; refine wpList_append_eq rfl (.tmp 83) (.tmp 88) 22 rfl _ _ _ w' (by rfl) (by rfl) hr ?_)
            go_roundw
            case rel => exact ⟨k + 1, m + 1, _, cap', hkn, by go_num, rfl, by
              have := HK.out
              rw [HM.out]
              split <;> split <;> omega, HI'⟩
            case measure => simp [intOf]; omega
        · obtain rfl : k = n := by omega
          have hm' : m = k - 1 := by
            rw [hm]; split <;> omega
          subst hm'
          have RW := hide HG.out.row.1
          have BW := hide (B5.out.trans (HG.out.below.mono B5.out.size))
          have GW := hide (G5.out.below HG.out.below)
          clear hm
          go_wp2_with fail
          refine (equal11b _ a' (k - 1) cap (k - 1) cp (del x j) (del x j) _ (by omega) (by omega) (.inr ⟨_, _, rfl, GW.out⟩) RW.out).mono ?_
          rintro e w6 ⟨q, rfl, hq, b6⟩
          have hq' := hq.2 ⟨rfl, fun _ _ => rfl⟩
          subst hq'
          have B6 := hide (BW.out.trans (b6.mono BW.out.size))
          clear hq b6
          go_wp2
          go_ret
          exact .mk B6.out
end Go.Proofs.Qxb6600057a
