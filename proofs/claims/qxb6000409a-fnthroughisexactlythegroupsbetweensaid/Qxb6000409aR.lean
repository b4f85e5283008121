import Derived.Test.Qxb6000409aQ
import Derived.Test.Qxb6000409aN
namespace Go.Proofs.Qxb6000409a
open Go.RowKit Go.Maps

set_option maxRecDepth 100000 in
set_option maxHeartbeats 3200000 in
theorem through_walk (a0 a1 a2 : Option Addr) (n0 n1 n2 c0 c1 c2 : Nat) (x0 x1 x2 : Nat → ByteArray) (w : World) (h0 : SRow w a0 n0 x0) (h1 : SRow w a1 n1 x1) (h2 : SRow w a2 n2 x2) (hc2 : n2 ≤ c2) :
    Calls Try.prog 8 #[.slice a0 n0 c0, .slice a1 n1 c1, .slice a2 n2 c2] w (Yes w) := by
  have q22 : ∀ (w : World) (a : Option Addr) (n c n' c' : Nat), (binOp .neq 22 (.slice a n c) (.slice none n' c')).run Try.prog w = .ok (.bool (!a.isNone)) w := fun w a n c n' c' => run_neq_slice_nil_any w _ _ a n c n' c' Try.underlying22
  go_enter Try.func8, Try.ntmps8
  go_wp2_with fail
  refine (bytes25 _ _ _ _ _ _ _ _ _ x0 x1 x2 _ h0 h1 h2).mono ?_
  rintro e w ⟨t, rfl, ht, rfl⟩
  cases t with
  | false =>
    go_wp2
    go_ret
    exact .mk (Below.refl _ _)
  | true =>
  obtain ⟨S0, S1⟩ := ht rfl
  clear ht
  by_cases k0 : n0 ≤ 256
  case neg =>
    go_wp2
    go_ret
    exact .mk (Below.refl _ _)
  by_cases k1 : n1 ≤ 256
  case neg =>
    go_wp2
    go_ret
    exact .mk (Below.refl _ _)
  by_cases k2 : n2 ≤ 256
  case neg =>
    go_wp2
    go_ret
    exact .mk (Below.refl _ _)
  have H0 := hide h0
  have H1 := hide h1
  have H2 := hide h2
  clear h0 h1 h2
  go_wp2_with fail
  refine (bytesOf_any _ _ _ x0 _ (by omega) H0.out).mono ?_
  rintro e w ⟨t0, rfl, t00, t01, rfl⟩
  go_wp2_with fail
  refine (bytesOf_any _ _ _ x1 _ (by omega) H1.out).mono ?_
  rintro e w ⟨t1, rfl, t10, t11, rfl⟩
  go_wp2_with fail
  refine (bytesOf_any _ _ _ x2 _ (by omega) H2.out).mono ?_
  rintro e w ⟨t2, rfl, t20, t21, rfl⟩
  by_cases hb : t0 + t1 + t2 ≤ 1048576
  case neg =>
    go_wp2
    go_ret
    exact .mk (Below.refl _ _)
  go_upto_if 48 with (fail)
  go_cut [0] (fun s0 wc => ∃ a c, s0 = .slice a n0 c ∧ Hid (Below w.heap.size w wc) ∧ Hid (SRow wc a n0 x0))
  case first =>
    have hmk := make22 n0 (by omega)
    obtain ⟨wx, hcp, hbx, hsx⟩ := copy22 a0 n0 c0 x0 w H0.out
    have HB := hide hbx
    have HS := hide hsx
    clear hbx hsx
    cases a0 with
    | none =>
      go_wp2
      go_meet
      case rel => exact ⟨_, _, rfl, Below.refl _ _, H0⟩
    | some a =>
      go_wp2
      go_meet
      case rel => exact ⟨_, _, rfl, HB, HS⟩
  case rest =>
  obtain ⟨b0, d0, rfl, B0, R0⟩ := hcut
  have H1' := hide (H1.out.below B0.out)
  have H2' := hide (H2.out.below B0.out)
  clear H0 H1 H2
  go_upto_if 57 with (fail)
  go_cut [1] (fun s1 w' => ∃ a c, s1 = .slice a n1 c ∧ Hid (Below wc.heap.size wc w') ∧ Hid (SRow w' a n1 x1))
  case first =>
    have hmk := make22 n1 (by omega)
    obtain ⟨wx, hcp, hbx, hsx⟩ := copy22 a1 n1 c1 x1 wc H1'.out
    have HB := hide hbx
    have HS := hide hsx
    clear hbx hsx
    cases a1 with
    | none =>
      go_wp2
      go_meet
      case rel => exact ⟨_, _, rfl, Below.refl _ _, H1'⟩
    | some a =>
      go_wp2
      go_meet
      case rel => exact ⟨_, _, rfl, HB, HS⟩
  case rest =>
  obtain ⟨b1, d1, rfl, B1, R1⟩ := hcut
  have R0' := hide (R0.out.below B1.out)
  have H2'' := hide (H2'.out.below B1.out)
  have B01 := hide (B0.out.trans (B1.out.mono B0.out.size))
  clear B0 B1 R0 H1' H2'
  have R1' := R1
  have R2 := H2''
  have B := B01
  have R0 := R0'
  clear R1 H2'' B01 R0'
  go_wp2_with fail
  refine (tree_any _ _ n0 n1 _ _ x0 x1 _ k0 R0.out R1'.out).mono ?_
  rintro e w1 ⟨hb1, rfl | ⟨rfl, hi1, hz1, rfl, hT⟩⟩
  · go_wp2
    go_ret
    exact .mk (B.out.trans (hb1.mono B.out.size))
  have B1 := hide (B.out.trans (hb1.mono B.out.size))
  have R01 := hide (R0.out.below hb1)
  have R11 := hide (R1'.out.below hb1)
  have R21 := hide (R2.out.below hb1)
  have I1 := hide hi1
  have HT := hide hT
  have HU := hide hT.isUp
  clear hb1 hi1 hz1 hT R0 R1' R2 B
  go_wp2_with fail
  refine (dst_any _ _ n1 _ n2 _ x0 x2 _ k0 k2 R01.out R21.out).mono ?_
  rintro e w2 ⟨hb2, rfl | ⟨rfl, hi2, hz2, hm0, hix⟩⟩
  · go_wp2
    go_ret
    exact .mk (B1.out.trans (hb2.mono B1.out.size))
  obtain ⟨ix, hixd⟩ : ∃ ix : Nat → Nat, ix = fun i => (idx n1 x0 (x2 i)).toNat := ⟨_, rfl⟩
  have HX : Hid (∀ i, i < n2 → ix i < n1 ∧ x2 i = x0 (ix i)) := fun i hi => by
    rw [hixd]
    have := idx_place (hix i hi)
    exact ⟨this.1, this.2.1⟩
  have I2 : Hid (IAt w2 w1.heap.size 0 n2 (fun i => (ix i : Int))) := fun i hi => by
    rw [hi2 i hi, hixd]
    exact congrArg (fun z => some (Value.int .i64 z)) (idx_place (hix i hi)).2.2.symm
  have hn0 : 0 < n1 := by have := (HX.out 0 hm0).1; omega
  have B2 := hide (B1.out.trans (hb2.mono B1.out.size))
  have I12 := hide (I1.out.below hb2)
  rcases R01.out.below hb2 with e | ⟨p0, f0, rfl, r0⟩
  · omega
  rcases R11.out.below hb2 with e | ⟨p1, f1, rfl, r1⟩
  · omega
  rcases R21.out.below hb2 with e | ⟨p2, f2, rfl, r2⟩
  · omega
  have R0 := hide r0
  have R1 := hide r1
  have R2 := hide r2
  have hml : (1048576 : Nat) ≤ maxLen := by unfold maxLen; omega
  have Z0 : Hid (∀ i, i < n1 → (x0 i).size ≤ maxLen) := fun i hi => Nat.le_trans (S0 i hi) hml
  have Z1 : Hid (∀ i, i < n1 → (x1 i).size ≤ maxLen) := fun i hi => Nat.le_trans (S1 i hi) hml
  clear hb2 hi2 hz2 hix hixd r0 r1 r2 S0 S1 R01 R11 R21 B1 I1 hml
  go_wp2_with fail
  refine (new_some p0 f0 p1 f1 n1 _ _ x0 x1 _ k0 hn0 R0.out R1.out HT.out Z0.out Z1.out).mono ?_
  rintro e w3 ⟨mp, mc, md, rfl, hb3, hp3, hd3⟩
  have B3 := hide (B2.out.trans (hb3.mono B2.out.size))
  have I13 := hide (I12.out.below hb3)
  have I23 := hide (I2.out.below hb3)
  have R03 := hide (R0.out.below hb3)
  have R23 := hide (R2.out.below hb3)
  have M3 := hide hp3
  have D3 := hide hd3
  clear hb3 hp3 hd3 B2 I12 I2 R0 R1 R2
  go_wp2_with fail
  refine (through_some mp mc md p2 f2 n1 n2 c2 x0 x1 x2 ix _ k0 k2 hm0 hc2 (R23.out.below (below_new _ _)) HT.out HX.out Z0.out (M3.out.alloc _) (D3.out.alloc _)).mono ?_
  rintro e w5 ⟨L, at', cp, ys, hL, hA, rfl, hb5, hrow, hcp, hlen, hnd, hgood, hfull⟩
  have hb35 : Below w3.heap.size w3 w5 := (below_new _ _).trans (hb5.mono (by simp))
  have B5 := hide (B3.out.trans (hb35.mono B3.out.size))
  have I15 := hide (I13.out.below hb35)
  have I25 := hide (I23.out.below hb35)
  have R05 := hide (R03.out.below hb35)
  have R25 := hide (R23.out.below hb35)
  have HA := hide hA
  have HN := hide hnd
  have HG := hide hgood
  have HF := hide hfull
  obtain ⟨r, hr⟩ : ∃ r, ys.length = r := ⟨_, rfl⟩
  obtain ⟨Y, hY⟩ : ∃ Y : Nat → ByteArray, Y = fun j => x0 (ys.getD j 0) := ⟨_, rfl⟩
  rw [← hY, hr] at hrow
  rw [hr] at hcp hlen
  have HR := hide hr
  have HY2 : Hid (∀ j, Y j = x0 (ys.getD j 0)) := fun j => by rw [hY]
  have TR := hide hrow
  rw [hr]
  clear hb5 hb35 hA hnd hgood hfull hrow hr hY B3 I13 I23 R03 R23 M3 D3 Z0 Z1
  have hXn : ∀ i, i < n2 → ix i < n1 := fun i hi => (HX.out i hi).1
  have HXn := hide hXn
  clear hXn
  go_wp2
  go_loop [15, 16] (fun bst i => ∃ k : Nat, k ≤ n1 ∧ i = .int .i64 k ∧ ((bst = .int .i64 (-1) ∧ Hid (∀ i, i < k → ¬ ∀ j, j < n2 → Anc (up n1 x0 x1) i (ix j))) ∨ ∃ b : Nat, b < n1 ∧ bst = .int .i64 b ∧ Hid ((∀ j, j < n2 → Anc (up n1 x0 x1) b (ix j)) ∧ ∀ i, i < k → (∀ j, j < n2 → Anc (up n1 x0 x1) i (ix j)) → dpt n1 x0 x1 i ≤ dpt n1 x0 x1 b))) (fun _ j => n1 - (intOf j).toNat)
  case atStart => exact ⟨0, Nat.zero_le _, rfl, .inl ⟨rfl, fun i h => absurd h (by omega)⟩⟩
  case round =>
    obtain ⟨k, hk, rfl, hbst⟩ := hrel
    by_cases hlt : k < n1
    · rcases hbst with ⟨rfl, HB⟩ | ⟨b, hb, rfl, HB⟩
      · go_wp2_with fail
        refine (covers_some _ 0 n1 n1 k _ 0 n2 n2 (up n1 x0 x1) (dpt n1 x0 x1) ix _ k0 I15.out HU.out k2 I25.out HXn.out).mono ?_
        rintro e w5 ⟨t, rfl, ht, rfl⟩
        cases t with
        | false =>
          have ht1 : Hid (¬ ∀ j, j < n2 → Anc (up n1 x0 x1) k (ix j)) := fun h => (by have := ht.2 h; cases this)
          clear ht
          go_wp2
          go_round
          case rel => exact ⟨k + 1, hlt, by go_num, .inl ⟨rfl, fun i hi => by
              by_cases e : i = k
              · subst e; exact ht1.out
              · exact HB.out i (by omega)⟩⟩
          case measure => simp [intOf]; omega
        | true =>
          have ht1 : Hid (∀ j, j < n2 → Anc (up n1 x0 x1) k (ix j)) := ht.1 rfl
          clear ht
          go_wp2
          go_round
          case rel => exact ⟨k + 1, hlt, by go_num, .inr ⟨k, hlt, rfl, ht1.out, fun i hi hc => by
              by_cases e : i = k
              · subst e; exact Nat.le_refl _
              · exact absurd hc (HB.out i (by omega))⟩⟩
          case measure => simp [intOf]; omega
      · go_wp2_with fail
        refine (covers_some _ 0 n1 n1 k _ 0 n2 n2 (up n1 x0 x1) (dpt n1 x0 x1) ix _ k0 I15.out HU.out k2 I25.out HXn.out).mono ?_
        rintro e w5 ⟨t, rfl, ht, rfl⟩
        cases t with
        | false =>
          have ht1 : Hid (¬ ∀ j, j < n2 → Anc (up n1 x0 x1) k (ix j)) := fun h => (by have := ht.2 h; cases this)
          clear ht
          go_wp2
          go_round
          case rel => exact ⟨k + 1, hlt, by go_num, .inr ⟨b, hb, rfl, HB.out.1, fun i hi hc => by
              by_cases e : i = k
              · subst e; exact absurd hc ht1.out
              · exact HB.out.2 i (by omega) hc⟩⟩
          case measure => simp [intOf]; omega
        | true =>
          have ht1 : Hid (∀ j, j < n2 → Anc (up n1 x0 x1) k (ix j)) := ht.1 rfl
          clear ht
          go_wp2_with fail
          refine (depth_some _ 0 n1 n1 (up n1 x0 x1) (dpt n1 x0 x1) k _ k0 I15.out HU.out hlt).mono ?_
          rintro e w5 ⟨rfl, rfl⟩
          go_wp2_with fail
          refine (depth_some _ 0 n1 n1 (up n1 x0 x1) (dpt n1 x0 x1) b _ k0 I15.out HU.out hb).mono ?_
          rintro e w5 ⟨rfl, rfl⟩
          by_cases hgt : dpt n1 x0 x1 b < dpt n1 x0 x1 k
          · go_wp2
            go_round
            case rel => exact ⟨k + 1, hlt, by go_num, .inr ⟨k, hlt, rfl, ht1.out, fun i hi hc => by
              by_cases e : i = k
              · subst e; exact Nat.le_refl _
              · have := HB.out.2 i (by omega) hc
                omega⟩⟩
            case measure => simp [intOf]; omega
          · go_wp2
            go_round
            case rel => exact ⟨k + 1, hlt, by go_num, .inr ⟨b, hb, rfl, HB.out.1, fun i hi hc => by
              by_cases e : i = k
              · subst e; omega
              · exact HB.out.2 i (by omega) hc⟩⟩
            case measure => simp [intOf]; omega
    · obtain rfl : k = n1 := by omega
      have hcov := (HA.out L).1 (.refl _ _)
      rcases hbst with ⟨rfl, HB⟩ | ⟨b, hb, rfl, HB⟩
      · exact absurd hcov (HB.out L hL)
      have hbL : b = L := by
        have h1 := HU.out.anc_dep hL ((HA.out b).2 HB.out.1)
        have h2 := HB.out.2 L hL hcov
        exact h1.2.2 (by omega)
      subst hbL
      clear hcov HB
      go_wp2
      go_loopw [17] (fun i wr => ∃ j d : Nat, j ≤ r ∧ i = .int .i64 j ∧ wr = w5.drewN d) (fun i _ => r - (intOf i).toNat)
      case atStart => exact ⟨0, 0, Nat.zero_le _, rfl, rfl⟩
      case round =>
        obtain ⟨j, d, hj, rfl, rfl⟩ := hrel
        have bd : Below w5.heap.size w5 (w5.drewN d) := below_drewN (Below.refl _ _) d
        have I1 := hide (I15.out.below bd)
        have I2 := hide (I25.out.below bd)
        have R0 := hide (R05.out.below bd)
        have R2 := hide (R25.out.below bd)
        have TD := hide (TR.out.below bd)
        by_cases hjr : j < r
        · rcases TR.out with e | ⟨tb, tf, rfl, tr⟩
          · omega
          have hyj := HY2.out j
          obtain ⟨y, ey⟩ : ∃ y, ys.getD j 0 = y := ⟨_, rfl⟩
          rw [ey] at hyj
          have hym : y ∈ ys := by rw [← ey, getD_at (by rw [HR.out]; exact hjr)]; exact List.getElem_mem _
          have hin := HG.out y hym
          have c1 : inl j Y (Y j) = false := inl_false.2 fun i hi e => by
            rw [HY2.out i, HY2.out j] at e
            have l1 : i < ys.length := by rw [HR.out]; omega
            have l2 : j < ys.length := by rw [HR.out]; omega
            have m1 : ys.getD i 0 ∈ ys := by rw [getD_at l1]; exact List.getElem_mem _
            have m2 : ys.getD j 0 ∈ ys := by rw [getD_at l2]; exact List.getElem_mem _
            have e2 := HT.out.eq (HG.out _ m1).1.lt (HG.out _ m2).1.lt e
            rw [getD_at l1, getD_at l2] at e2
            exact (List.pairwise_iff_getElem.1 HN.out) i j l1 l2 hi e2
          have c2 : inl n2 x2 (x0 y) = false := inl_false.2 fun i hi e => hin.1.no i hi e
          have g0 := tr j hjr
          have cjp : j ≤ cp := by omega
          have HTd : Hid (∀ q, SRow (w5.drewN q) (some ⟨tb, tf, none⟩) j Y) := fun q => .inr ⟨tb, tf, rfl, fun i hi => (World.cell?_drewN ..).trans (tr i (by omega))⟩
          have HJ : Hid (j ≤ 1048576) := by show _ ≤ _; omega
          rw [hyj] at g0 c1
          have HC1 := hide c1
          have HI : Hid (idx k x0 (x0 y) = y) := HT.out.idx hin.1.lt
          have HIN := hide hin
          clear tr ey hym hin hyj
          go_wp2
          go_quiet ((go_at_call 28; refine (inlist_any (some ⟨tb, tf, none⟩) j cp Y (x0 y) _ HJ.out (HTd.out _)).mono ?_; rintro e w'' ⟨he, rfl⟩; rw [HC1.out] at he; subst he; exact ⟨rfl, _, rfl⟩))
          rename_i nq
          have bq : Below w5.heap.size w5 (w5.drewN (d + nq)) := below_drewN (Below.refl _ _) _
          have J1 := hide (I15.out.below bq)
          have J2 := hide (I25.out.below bq)
          have J0 := hide (R05.out.below bq)
          have J3 := hide (R25.out.below bq)
          clear bq I1 I2 R0 R2 TD
          go_wp2_with fail
          refine (idx_some p0 f0 k _ x0 (x0 y) _ (by omega) J0.out).mono ?_
          rintro e w6 ⟨he, rfl⟩
          rw [HI.out] at he
          subst he
          go_wp2_with fail
          refine (inlist_any _ n2 _ x2 (x0 y) _ (by omega) (.inr ⟨_, _, rfl, J3.out⟩)).mono ?_
          rintro e w6 ⟨rfl, rfl⟩
          go_wp2_with fail
          refine (between_some _ 0 k k b y _ 0 n2 n2 (up k x0 x1) (dpt k x0 x1) ix _ (by omega) J1.out HU.out HIN.out.1.lt k2 J2.out HXn.out).mono ?_
          rintro e w6 ⟨t, rfl, ht, rfl⟩
          have htt := ht.2 ⟨HIN.out.1.ne, HIN.out.1.anc, HIN.out.2⟩
          subst htt
          clear ht
          go_wp2
          go_roundw
          case rel => exact ⟨j + 1, _, hjr, by go_num, rfl⟩
          case measure => simp [intOf]; omega
        · obtain rfl : j = r := by omega
          go_wp2
          go_loop [19] (fun i => ∃ l : Nat, l ≤ k ∧ i = .int .i64 l) (fun i => k - (intOf i).toNat)
          case atStart => exact ⟨0, Nat.zero_le _, rfl⟩
          case round =>
            obtain ⟨l, hl, rfl⟩ := hrel
            by_cases hlk : l < k
            · have g0 := R05.out l hlk
              go_wp2_with fail
              refine (inlist_any _ n2 _ x2 (x0 l) _ (by omega) (.inr ⟨_, _, rfl, R2.out⟩)).mono ?_
              rintro e w6 ⟨rfl, rfl⟩
              rcases Bool.eq_false_or_eq_true (inl n2 x2 (x0 l)) with c | c
              · go_wp2
                go_round
                case rel => exact ⟨l + 1, hlk, by go_num⟩
                case measure => simp [intOf]; omega
              · have HC := hide (inl_false.1 c)
                go_wp2_with fail
                refine (between_some _ 0 k k b l _ 0 n2 n2 (up k x0 x1) (dpt k x0 x1) ix _ (by omega) I1.out HU.out hlk k2 I2.out HXn.out).mono ?_
                rintro e w6 ⟨t, rfl, ht, rfl⟩
                cases t with
                | false =>
                  clear ht
                  go_wp2
                  go_round
                  case rel => exact ⟨l + 1, hlk, by go_num⟩
                  case measure => simp [intOf]; omega
                | true =>
                  obtain ⟨q1, q2, q3⟩ := ht.1 rfl
                  have hm : l ∈ ys := HF.out l ⟨⟨hlk, q1, q2, HC.out⟩, q3⟩
                  have c2 : inl j Y (x0 l) = true := by
                    obtain ⟨i, hi, e⟩ := List.mem_iff_getElem.1 hm
                    refine inl_iff.2 ⟨i, by rw [← HR.out]; exact hi, ?_⟩
                    rw [HY2.out, getD_at hi, e]
                  clear ht q1 q2 q3 hm
                  go_wp2_with fail
                  refine (inlist_any _ j _ Y (x0 l) _ (by omega) TD.out).mono ?_
                  rintro e w6 ⟨rfl, rfl⟩
                  go_wp2
                  go_round
                  case rel => exact ⟨l + 1, hlk, by go_num⟩
                  case measure => simp [intOf]; omega
            · go_wp2
              go_ret
              exact .mk (below_drewN B5.out d)
end Go.Proofs.Qxb6000409a
