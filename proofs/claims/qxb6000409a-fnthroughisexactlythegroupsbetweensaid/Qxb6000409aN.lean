import Derived.Test.Qxb6000409aL
namespace Go.Proofs.Qxb6000409a
open Go.RowKit Go.Maps

def Yes (w : World) (e : Ending) (w' : World) : Prop := e = .returned (.bool true) ∧ Below w.heap.size w w'
theorem Yes.mk {w w' : World} (h : Below w.heap.size w w') : Yes w (.returned (.bool true)) w' := ⟨rfl, h⟩

theorem Up.no_child {n : Nat} {q : Nat → Int} {dep : Nat → Nat} (U : Up n q dep) {j l : Nat} (hj : j < n) (hl : l < n) (h : q j = l) : ¬ Anc q j l := fun ha => by
  have h1 := (U.anc_dep hl ha).2.1
  rcases U.par j hj with ⟨e, _⟩ | ⟨k, _, e, e2⟩
  · omega
  · have : k = l := by omega
    subst this; omega
theorem idx_place {n : Nat} {x : Nat → ByteArray} {g : ByteArray} (h : 0 ≤ idx n x g) : (idx n x g).toNat < n ∧ g = x (idx n x g).toNat ∧ (((idx n x g).toNat : Nat) : Int) = idx n x g := by
  unfold idx at h ⊢
  rcases stepI_spec (fun i => seq (x i) g) n with ⟨h1, _⟩ | ⟨s, h1, h2, h3, _⟩
  · omega
  · rw [h1, Int.toNat_natCast]
    exact ⟨h2, (seq_iff.1 h3).symm, rfl⟩

set_option maxRecDepth 100000 in
set_option maxHeartbeats 3200000 in
theorem lca_walk (a0 a1 a2 : Option Addr) (n0 n1 n2 c0 c1 c2 : Nat) (x0 x1 x2 : Nat → ByteArray) (w : World) (h0 : SRow w a0 n0 x0) (h1 : SRow w a1 n1 x1) (h2 : SRow w a2 n2 x2) :
    Calls Try.prog 5 #[.slice a0 n0 c0, .slice a1 n1 c1, .slice a2 n2 c2] w (Yes w) := by
  have q22 : ∀ (w : World) (a : Option Addr) (n c n' c' : Nat), (binOp .neq 22 (.slice a n c) (.slice none n' c')).run Try.prog w = .ok (.bool (!a.isNone)) w := fun w a n c n' c' => run_neq_slice_nil_any w _ _ a n c n' c' Try.underlying22
  go_enter Try.func5, Try.ntmps5
  go_wp2_with fail
  refine (bytes18 _ _ _ _ _ _ _ _ _ x0 x1 x2 _ h0 h1 h2).mono ?_
  rintro e w ⟨t, rfl, ht, rfl⟩
  cases t with
  | false =>
    go_wp2
    go_ret
    exact .mk (Below.refl _ _)
  | true =>
  obtain ⟨S0, S1⟩ := ht rfl
  clear ht
  by_cases k0 : n0 ≤ 256
  case neg =>
    go_wp2
    go_ret
    exact .mk (Below.refl _ _)
  by_cases k1 : n1 ≤ 256
  case neg =>
    go_wp2
    go_ret
    exact .mk (Below.refl _ _)
  by_cases k2 : n2 ≤ 256
  case neg =>
    go_wp2
    go_ret
    exact .mk (Below.refl _ _)
  have H0 := hide h0
  have H1 := hide h1
  have H2 := hide h2
  clear h0 h1 h2
  go_wp2_with fail
  refine (bytesOf_any _ _ _ x0 _ (by omega) H0.out).mono ?_
  rintro e w ⟨t0, rfl, t00, t01, rfl⟩
  go_wp2_with fail
  refine (bytesOf_any _ _ _ x1 _ (by omega) H1.out).mono ?_
  rintro e w ⟨t1, rfl, t10, t11, rfl⟩
  go_wp2_with fail
  refine (bytesOf_any _ _ _ x2 _ (by omega) H2.out).mono ?_
  rintro e w ⟨t2, rfl, t20, t21, rfl⟩
  by_cases hb : t0 + t1 + t2 ≤ 1048576
  case neg =>
    go_wp2
    go_ret
    exact .mk (Below.refl _ _)
  go_upto_if 46 with (fail)
  go_cut [0] (fun s0 wc => ∃ a c, s0 = .slice a n0 c ∧ Hid (Below w.heap.size w wc) ∧ Hid (SRow wc a n0 x0))
  case first =>
    have hmk := make22 n0 (by omega)
    obtain ⟨wx, hcp, hbx, hsx⟩ := copy22 a0 n0 c0 x0 w H0.out
    have HB := hide hbx
    have HS := hide hsx
    clear hbx hsx
    cases a0 with
    | none =>
      go_wp2
      go_meet
      case rel => exact ⟨_, _, rfl, Below.refl _ _, H0⟩
    | some a =>
      go_wp2
      go_meet
      case rel => exact ⟨_, _, rfl, HB, HS⟩
  case rest =>
  obtain ⟨b0, d0, rfl, B0, R0⟩ := hcut
  have H1' := hide (H1.out.below B0.out)
  have H2' := hide (H2.out.below B0.out)
  clear H0 H1 H2
  go_upto_if 55 with (fail)
  go_cut [1] (fun s1 w' => ∃ a c, s1 = .slice a n1 c ∧ Hid (Below wc.heap.size wc w') ∧ Hid (SRow w' a n1 x1))
  case first =>
    have hmk := make22 n1 (by omega)
    obtain ⟨wx, hcp, hbx, hsx⟩ := copy22 a1 n1 c1 x1 wc H1'.out
    have HB := hide hbx
    have HS := hide hsx
    clear hbx hsx
    cases a1 with
    | none =>
      go_wp2
      go_meet
      case rel => exact ⟨_, _, rfl, Below.refl _ _, H1'⟩
    | some a =>
      go_wp2
      go_meet
      case rel => exact ⟨_, _, rfl, HB, HS⟩
  case rest =>
  obtain ⟨b1, d1, rfl, B1, R1⟩ := hcut
  have R0' := hide (R0.out.below B1.out)
  have H2'' := hide (H2'.out.below B1.out)
  have B01 := hide (B0.out.trans (B1.out.mono B0.out.size))
  clear B0 B1 R0 H1' H2'
  go_upto_if 64 with (fail)
  go_cut [2] (fun s2 w' => ∃ a c, s2 = .slice a n2 c ∧ Hid (Below wc.heap.size wc w') ∧ Hid (SRow w' a n2 x2) ∧ Hid (0 < n2 → c = n2))
  case first =>
    have hmk := make22 n2 (by omega)
    obtain ⟨wx, hcp, hbx, hsx⟩ := copy22 a2 n2 c2 x2 wc H2''.out
    have HB := hide hbx
    have HS := hide hsx
    clear hbx hsx
    cases a2 with
    | none =>
      have HZ : Hid (n2 = 0) := by
        rcases H2''.out with h | ⟨_, _, h, _⟩
        · exact h
        · cases h
      go_wp2
      go_meet
      case rel => exact ⟨_, _, rfl, Below.refl _ _, H2'', fun h => absurd HZ.out (by omega)⟩
    | some a =>
      go_wp2
      go_meet
      case rel => exact ⟨_, _, rfl, HB, HS, fun _ => rfl⟩
  case rest =>
  obtain ⟨b2, d2, rfl, B2, R2, RC⟩ := hcut
  have R0 := hide (R0'.out.below B2.out)
  have R1' := hide (R1.out.below B2.out)
  have B := hide (B01.out.trans (B2.out.mono B01.out.size))
  clear B01 B2 R0' R1 H2''
  go_wp2_with fail
  refine (tree_any _ _ n0 n1 _ _ x0 x1 _ k0 R0.out R1'.out).mono ?_
  rintro e w1 ⟨hb1, rfl | ⟨rfl, hi1, hz1, rfl, hT⟩⟩
  · go_wp2
    go_ret
    exact .mk (B.out.trans (hb1.mono B.out.size))
  have B1 := hide (B.out.trans (hb1.mono B.out.size))
  have R01 := hide (R0.out.below hb1)
  have R11 := hide (R1'.out.below hb1)
  have R21 := hide (R2.out.below hb1)
  have I1 := hide hi1
  have HT := hide hT
  have HU := hide hT.isUp
  clear hb1 hi1 hz1 hT R0 R1' R2 B
  go_wp2_with fail
  refine (dst_any _ _ n1 _ n2 _ x0 x2 _ k0 k2 R01.out R21.out).mono ?_
  rintro e w2 ⟨hb2, rfl | ⟨rfl, hi2, hz2, hm0, hix⟩⟩
  · go_wp2
    go_ret
    exact .mk (B1.out.trans (hb2.mono B1.out.size))
  obtain ⟨ix, hixd⟩ : ∃ ix : Nat → Nat, ix = fun i => (idx n1 x0 (x2 i)).toNat := ⟨_, rfl⟩
  have HX : Hid (∀ i, i < n2 → ix i < n1 ∧ x2 i = x0 (ix i)) := fun i hi => by
    rw [hixd]
    have := idx_place (hix i hi)
    exact ⟨this.1, this.2.1⟩
  have I2 : Hid (IAt w2 w1.heap.size 0 n2 (fun i => (ix i : Int))) := fun i hi => by
    rw [hi2 i hi, hixd]
    exact congrArg (fun z => some (Value.int .i64 z)) (idx_place (hix i hi)).2.2.symm
  have hn0 : 0 < n1 := by have := (HX.out 0 hm0).1; omega
  have hd2 := (RC.out hm0).symm
  subst hd2
  have B2 := hide (B1.out.trans (hb2.mono B1.out.size))
  have I12 := hide (I1.out.below hb2)
  rcases R01.out.below hb2 with e | ⟨p0, f0, rfl, r0⟩
  · omega
  rcases R11.out.below hb2 with e | ⟨p1, f1, rfl, r1⟩
  · omega
  rcases R21.out.below hb2 with e | ⟨p2, f2, rfl, r2⟩
  · omega
  have R0 := hide r0
  have R1 := hide r1
  have R2 := hide r2
  have hml : (1048576 : Nat) ≤ maxLen := by unfold maxLen; omega
  have Z0 : Hid (∀ i, i < n1 → (x0 i).size ≤ maxLen) := fun i hi => Nat.le_trans (S0 i hi) hml
  have Z1 : Hid (∀ i, i < n1 → (x1 i).size ≤ maxLen) := fun i hi => Nat.le_trans (S1 i hi) hml
  clear hb2 hi2 hz2 hix hixd r0 r1 r2 S0 S1 RC R01 R11 R21 B1 I1 hml
  go_wp2_with fail
  refine (new_some p0 f0 p1 f1 n1 _ _ x0 x1 _ k0 hn0 R0.out R1.out HT.out Z0.out Z1.out).mono ?_
  rintro e w3 ⟨mp, mc, md, rfl, hb3, hp3, hd3⟩
  have B3 := hide (B2.out.trans (hb3.mono B2.out.size))
  have I13 := hide (I12.out.below hb3)
  have I23 := hide (I2.out.below hb3)
  have R03 := hide (R0.out.below hb3)
  have R23 := hide (R2.out.below hb3)
  have M3 := hide hp3
  have D3 := hide hd3
  clear hb3 hp3 hd3 B2 I12 I2 R0 R1 R2
  go_wp2_with fail
  refine (zzlca mp mc md p2 f2 n1 n2 x0 x1 x2 ix _ k2 hm0 (R23.out.below (below_new _ _)) HT.out HX.out Z0.out (M3.out.alloc _) (D3.out.alloc _)).mono ?_
  rintro e w5 ⟨l, hl, rfl, hA, hb5⟩
  have hb35 : Below w3.heap.size w3 w5 := (below_new _ _).trans (hb5.mono (by simp))
  have B5 := hide (B3.out.trans (hb35.mono B3.out.size))
  have I15 := hide (I13.out.below hb35)
  have I25 := hide (I23.out.below hb35)
  have R05 := hide (R03.out.below hb35)
  have HA := hide hA
  have HL := hide (HT.out.idx hl)
  clear hb5 hb35 hA B3 I13 I23 R03 R23 M3 D3 Z0 Z1
  go_wp2_with fail
  refine (idx_some p0 f0 n1 _ x0 (x0 l) _ (by omega) R05.out).mono ?_
  rintro e w6 ⟨he, rfl⟩
  rw [HL.out] at he
  subst he
  go_wp2_with fail
  refine (covers_some _ 0 n1 n1 l _ 0 n2 n2 (up n1 x0 x1) (dpt n1 x0 x1) ix _ k0 I15.out HU.out k2 I25.out (fun i hi => (HX.out i hi).1)).mono ?_
  rintro e w7 ⟨t, rfl, ht, rfl⟩
  have htt := ht.2 ((HA.out l).1 (.refl _ _))
  subst htt
  clear ht
  go_wp2
  go_loop [17] (fun j => ∃ k : Nat, k ≤ n1 ∧ j = .int .i64 k) (fun j => n1 - (intOf j).toNat)
  case atStart => exact ⟨0, Nat.zero_le _, rfl⟩
  case round =>
    obtain ⟨k, hk, rfl⟩ := hrel
    by_cases hlt : k < n1
    · have g0 := I15.out k hlt
      rw [Nat.zero_add] at g0
      rcases Bool.eq_false_or_eq_true (up n1 x0 x1 k == (l : Int)) with t | t
      · go_wp2_with fail
        refine (covers_some _ 0 n1 n1 k _ 0 n2 n2 (up n1 x0 x1) (dpt n1 x0 x1) ix _ k0 I15.out HU.out k2 I25.out (fun i hi => (HX.out i hi).1)).mono ?_
        rintro e w8 ⟨t', rfl, ht, rfl⟩
        cases t' with
        | true =>
          exact absurd ((HA.out k).2 (ht.1 rfl)) (HU.out.no_child hlt hl (by simpa using t))
        | false =>
          clear ht
          go_wp2
          go_round
          case rel => exact ⟨k + 1, hlt, by go_num⟩
          case measure => simp [intOf]; omega
      · go_wp2
        go_round
        case rel => exact ⟨k + 1, hlt, by go_num⟩
        case measure => simp [intOf]; omega
    · go_wp2
      go_ret
      exact .mk B5.out
end Go.Proofs.Qxb6000409a
