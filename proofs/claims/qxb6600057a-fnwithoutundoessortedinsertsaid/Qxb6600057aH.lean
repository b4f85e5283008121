import Derived.Test.Qxb6600057aF
namespace Go.Proofs.Qxb6600057a
open Go.RowKit

set_option maxRecDepth 100000 in
set_option maxHeartbeats 3200000 in
theorem undoes_walk (a : Option Addr) (n c : Nat) (x : Nat → ByteArray) (t : ByteArray) (w : World) (h0 : SRow w a n x) : Calls Try.prog 4 #[.slice a n c, .string t] w (Law w) := by
  have H0 := hide h0
  clear h0
  go_enter Try.func4, Try.ntmps4
  go_wp2_with fail
  refine (bytes12 a n c x t _ H0.out).mono ?_
  rintro e w ⟨q, rfl, hq, rfl⟩
  cases q with
  | false =>
    clear hq
    go_wp2
    go_ret
    exact .mk (Below.refl _ _)
  | true =>
  obtain ⟨ht, hS⟩ := hq rfl
  have HS := hide hS
  clear hq hS
  by_cases hn : n ≤ 65536
  case neg =>
    go_wp2
    go_ret
    exact .mk (Below.refl _ _)
  go_wp2_with fail
  refine (fits7 a n c x t _ hn ht HS.out H0.out).mono ?_
  rintro e w ⟨q, rfl, rfl⟩
  cases q with
  | false =>
    go_wp2
    go_ret
    exact .mk (Below.refl _ _)
  | true =>
  go_wp2_with fail
  refine (sorted8b a n c x _ (by omega) H0.out).mono ?_
  rintro e w1 ⟨q, rfl, hq, b1⟩
  have B1 := hide b1
  have R1 := hide (H0.out.below b1)
  clear b1 H0 HS
  cases q with
  | false =>
    clear hq
    go_wp2
    go_ret
    exact .mk B1.out
  | true =>
  have HA := hide (hq.1 rfl)
  clear hq
  go_wp2_with fail
  refine (contains13 a n c x t _ (by omega) R1.out).mono ?_
  rintro e w1 ⟨q, rfl, hq, rfl⟩
  cases q with
  | true =>
    clear hq
    go_wp2
    go_ret
    exact .mk B1.out
  | false =>
  have HN : Hid (∀ k, k < n → x k ≠ t) := fun k hk e => by
    have := hq.2 ⟨k, hk, e⟩
    cases this
  clear hq
  go_wp2_with fail
  refine (copy9 a n c x _ (by omega) R1.out).mono ?_
  rintro e w2 ⟨a2, c2, rfl, _, r2, b2⟩
  have B2 := hide (B1.out.trans (b2.mono B1.out.size))
  have R2 := hide r2
  clear b2 r2 R1 B1
  go_wp2_with fail
  refine (zz10 a2 n c2 x t _ (by omega) R2.out HA.out).mono ?_
  rintro e w2 (⟨_, rfl, rfl⟩ | ⟨p, g, cap, h1, h2, h3, rfl, h5, h6⟩)
  case inr => exact absurd h2 (HN.out p h1)
  go_wp2_with fail
  refine (equal11b a2 a2 n c2 n c2 x x _ (by omega) (by omega) R2.out R2.out).mono ?_
  rintro e w3 ⟨q, rfl, hq, b3⟩
  have hq' := hq.2 ⟨rfl, fun _ _ => rfl⟩
  subst hq'
  have B3 := hide (B2.out.trans (b3.mono B2.out.size))
  have R3 := hide (R2.out.below b3)
  clear hq b3 R2 B2
  go_wp2
  go_loop [7] (fun i => ∃ p : Nat, p ≤ n ∧ i = .int .i64 p ∧ Hid (∀ k, k < p → slt (x k) t = true)) (fun i => n - (intOf i).toNat)
  case atStart => exact ⟨0, Nat.zero_le _, rfl, fun k h => absurd h (by omega)⟩
  case round =>
    obtain ⟨p, hp, rfl, HL⟩ := hrel
    have hif : (p < n ∧ slt (x p) t = true) ∨ Hid (p < n → slt (x p) t = false) := by
      by_cases h : p < n ∧ slt (x p) t = true
      · exact .inl h
      · refine .inr fun hpn => ?_
        rcases Bool.eq_false_or_eq_true (slt (x p) t) with e | e
        · exact absurd ⟨hpn, e⟩ h
        · exact e
    rcases hif with ⟨hpn, hs⟩ | HE
    · have HT := hide hs
      have hs' : Op.bytesLess (x p).toList t.toList = true := hs
      clear hs
      rcases R3.out with e | ⟨b, f, rfl, r3⟩
      · omega
      have g0 := r3 p hpn
      clear r3
      go_wp2
      go_round
      case rel => exact ⟨p + 1, hpn, by go_num, fun k hk => by
          by_cases e : k = p
          · subst e; exact HT.out
          · exact HL.out k (by omega)⟩
      case measure => simp [intOf]; omega
    · obtain ⟨n1, hn1⟩ : ∃ n1, n1 = n + 1 := ⟨_, rfl⟩
      have en : (n : Int) + 1 = (n1 : Int) := by omega
      obtain ⟨hmk, hgr⟩ := Gr.start w3 (ins x t p) n1 (by omega)
      have HG := hide hgr
      have HN1 := hide hn1
      have hmk' : (Instr.makeSlice 22 (.int .i64 0) (.int .i64 ((n : Int) + 1))).run Try.prog w3 = .ok (.slice (some ⟨w3.heap.size, 0, none⟩) 0 n1) (w3.alloc (.cells (madeCells #[.string e0] n1) 9)) := by rw [en]; exact hmk
      clear hgr hn1 hmk en
      have HA1 := hide (HA.out.ins hp HL.out HE.out)
      clear HL HA
      by_cases hpn : p < n
      case' pos =>
        have hb := HE.out hpn
        have hb' : Op.bytesLess (x p).toList t.toList = false := hb
        obtain ⟨b, f, ea, r3⟩ : ∃ b f, a2 = some ⟨b, f, none⟩ ∧ SAt w3 b f n x := by
          rcases R3.out with e | h
          · omega
          · exact h
        subst ea
        have g0 := r3 p hpn
        clear r3 hb HE
        go_wp2
        clear g0 hb'
      case' neg =>
        clear HE
        go_wp2
      all_goals
        clear hmk'
        go_loopw [8, 9] (fun s i wr => ∃ (k : Nat) (a' : Option Addr) (cp : Nat), k ≤ p ∧ i = .int .i64 k ∧ s = .slice a' k cp ∧ Hid (Gr w3.heap.size w3 (ins x t p) a' k cp wr)) (fun _ i _ => p - (intOf i).toNat)
        case atStart => exact ⟨0, _, _, Nat.zero_le _, rfl, rfl, HG⟩
        case round =>
          clear HG
          obtain ⟨k, a', cp, hk, rfl, rfl, HG⟩ := hrel
          by_cases hkp : k < p
          · rcases R3.out.below HG.out.below with e | ⟨b, f, e, r⟩
            · omega
            cases e
            have g0 := r k (by omega)
            obtain ⟨g', cap', w', hr, hI'⟩ := HG.out.add (Nat.le_refl _) (by omega) (ins_lo (x := x) (t := t) hkp)
            have HI' := hide hI'
            clear hI' r
            go_wp2_with (at_builtin; refine wpList_append_eq rfl (.tmp 76) (.tmp 81) 22 rfl _ _ _ w' (by rfl) (by rfl) hr ?_)
            go_roundw
            case rel => exact ⟨k + 1, _, cap', hkp, by go_num, rfl, HI'⟩
            case measure => simp [intOf]; omega
          · obtain rfl : k = p := by omega
            obtain ⟨g', cap', w', hr, hI'⟩ := HG.out.add (Nat.le_refl _) (by omega) (ins_at (x := x) (t := t))
            have HI' := hide hI'
            clear hI' HG
            go_wp2_with (at_builtin; refine wpList_append_eq rfl (.tmp 83) (.tmp 85) 22 rfl _ _ _ w' (by rfl) (by rfl) hr ?_)
            clear hr
            go_loopw [8, 10] (fun s i wr => ∃ (j : Nat) (a' : Option Addr) (cp : Nat), k ≤ j ∧ j ≤ n ∧ i = .int .i64 j ∧ s = .slice a' (j + 1) cp ∧ Hid (Gr w3.heap.size w3 (ins x t k) a' (j + 1) cp wr)) (fun _ i _ => n - (intOf i).toNat)
            case atStart => exact ⟨k, _, _, Nat.le_refl _, hp, rfl, rfl, HI'⟩
            case round =>
              clear HI'
              obtain ⟨j, a'', cp2, hkj, hj, rfl, rfl, HG⟩ := hrel
              by_cases hjn : j < n
              · first
                | (exfalso; omega)
                | (
                    rcases R3.out.below HG.out.below with e | ⟨b, f, e, r⟩
                    · omega
                    cases e
                    have g0 := r j hjn
                    obtain ⟨g2, cap2, w2', hr, hI2⟩ := HG.out.add (Nat.le_refl _) (by omega) (z := x j) (by rw [ins_hi (by omega), Nat.add_sub_cancel])
                    have HI2 := hide hI2
                    clear hI2 r
                    go_wp2_with (at_builtin; refine wpList_append_eq rfl (.tmp 94) (.tmp 99) 22 rfl _ _ _ w2' (by rfl) (by rfl) hr ?_)
                    go_roundw
                    case rel => exact ⟨j + 1, _, cap2, by omega, hjn, by go_num, rfl, HI2⟩
                    case measure => simp [intOf]; omega)
              · obtain rfl : j = n := by omega
                have RW := hide HG.out.row.1
                have BW := hide (B3.out.trans (HG.out.below.mono B3.out.size))
                have RX := hide (R3.out.below HG.out.below)
                clear HG
                go_wp2_with fail
                refine (copy9 _ (j + 1) cp2 (ins x t k) _ (by omega) RW.out).mono ?_
                rintro e w5 ⟨a5, c5, rfl, _, r5, b5⟩
                have B5 := hide (BW.out.trans (b5.mono BW.out.size))
                have I5 := hide (RW.out.below b5)
                have X5 := hide (RX.out.below b5)
                have C5 := hide r5
                clear b5 r5 BW RW RX
                go_wp2_with fail
                refine (zz10 _ (j + 1) cp2 (ins x t k) t _ (by omega) I5.out HA1.out).mono ?_
                rintro e w6 (⟨h1, _, _⟩ | ⟨p', g, cap, h1, h2, h3, rfl, h5, h6⟩)
                · exact absurd ins_at (h1 k (by omega))
                have hp' : p' = k := by
                  rcases Nat.lt_trichotomy p' k with e | e | e
                  · rw [ins_lo e] at h2
                    exact absurd h2 (HN.out p' (by omega))
                  · exact e
                  · exact absurd ins_at (h3 k e)
                subst hp'
                have B6 := hide (B5.out.trans (h6.mono B5.out.size))
                have I6 := hide (I5.out.below h6)
                have X6 := hide (X5.out.below h6)
                have C6 := hide (C5.out.below h6)
                have G6 := hide h5
                clear h2 h3 h5 h6 B5 I5 X5 C5
                go_wp2_with fail
                refine (equal11b _ _ _ cap j c2 (del (ins x t p') p') x _ (by omega) (by omega) (.inr ⟨_, _, rfl, G6.out⟩) X6.out).mono ?_
                rintro e w7 ⟨q, rfl, hq, b7⟩
                have hq' := hq.2 ⟨by omega, fun i _ => del_ins i⟩
                subst hq'
                have B7 := hide (B6.out.trans (b7.mono B6.out.size))
                have I7 := hide (I6.out.below b7)
                have C7 := hide (C6.out.below b7)
                clear hq b7 B6 I6 X6 C6 G6
                go_wp2_with fail
                refine (equal11b _ a5 (j + 1) cp2 (j + 1) c5 (ins x t p') (ins x t p') _ (by omega) (by omega) I7.out C7.out).mono ?_
                rintro e w8 ⟨q, rfl, hq, b8⟩
                have hq' := hq.2 ⟨rfl, fun _ _ => rfl⟩
                subst hq'
                have B8 := hide (B7.out.trans (b8.mono B7.out.size))
                clear hq b8
                go_wp2
                go_ret
                exact .mk B8.out
end Go.Proofs.Qxb6600057a
