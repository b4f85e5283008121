import Derived.Test.Qxb6600053aL
import Derived.Test.Qxb6600053aQ
namespace Go.Proofs.Qxb6600053a
open Go.RowKit

theorem hide {p : Prop} (h : p) : Hid p := h
theorem unhide {p : Prop} (h : Hid p) : p := h

/-- cloneFs at a world whose size has a name -/
theorem clone_at (B b f n c : Nat) (x : Nat → Nat) (w : World) (hB : w.heap.size = B) (hn : n ≤ 1048576) (hbs : b < B) (h0 : FAt w b f n x) :
    Calls Try.prog 12 #[.slice (some ⟨b, f, none⟩) n c] w fun e w' => e = .returned (.slice (some ⟨B, 0, none⟩) n n) ∧ FAt w' B 0 n x ∧ Below B w w' ∧ w'.heap.size = B + 1 := by
  subst hB
  exact clone_some b f n c x w hn hbs h0

/-- out, firstMiss at round k: s where it has been met, else -1 -/
def outI (s k : Nat) : Int := if s < k then (s : Int) else -1

/-- what the law's round finds in dimension k; s: the dimension stepped across -/
structure RF (zl zh bl bh en xa : Nat → Nat) (xb : Nat → Bool) (s k : Nat) : Prop where
  p1 : posB (bl k) (bh k) (xa k) (xb k) = true
  zt : hoP zl zh en k = true → fo (xa k) (en k) = some .eq ∧ xb k = false
  lt : k < s → hoP zl zh en k = true
  eq : k = s → hoP zl zh en k = false
  p2 : k ≠ s → posB (zl k) (zh k) (xa k) (xb k) = true
  p3 : k = s → posB (zl k) (zh k) (xa k) (xb k) = false

theorem rf_of {zl zh bl bh en lo hi : Nat → Nat} {s k : Nat} (h : Dim zl zh bl bh en lo hi k) (hs : msF en lo hi s = true) (hlt : ∀ i, i < s → msF en lo hi i = false) :
    RF zl zh bl bh en (atF en lo hi) (fun i => if i = s then !blF en lo hi i else blF en lo hi i) s k := by
  by_cases e : k = s
  · subst e
    refine ⟨by simpa using h.inb' hs, fun hz => ?_, fun hl => absurd hl (by omega), fun _ => by rw [h.inz, hs]; rfl, fun hn => absurd rfl hn, fun _ => by simpa using h.pz' hs⟩
    rw [h.inz, hs] at hz; exact absurd hz (by simp)
  · refine ⟨by simpa [e] using h.inb, fun hz => ?_, fun hl => by rw [h.inz, hlt k hl]; rfl, fun he => absurd he e, fun _ => by simpa [e] using h.pz, fun he => absurd he e⟩
    have hm : msF en lo hi k = false := by rw [h.inz] at hz; simpa using hz
    obtain ⟨q1, q2⟩ := h.same hm
    exact ⟨by simpa using q1, by simpa [e] using q2⟩

/-- hoP's two tests -/
theorem ho_cases (zl zh en : Nat → Nat) (k : Nat) :
    ((fo (zl k) (en k) == some .lt || fo (zl k) (en k) == some .eq) = false ∧ hoP zl zh en k = false) ∨
    ((fo (zl k) (en k) == some .lt || fo (zl k) (en k) == some .eq) = true ∧ (fo (en k) (zh k) == some .lt) = true ∧ hoP zl zh en k = true) ∨
    ((fo (zl k) (en k) == some .lt || fo (zl k) (en k) == some .eq) = true ∧ (fo (en k) (zh k) == some .lt) = false ∧ hoP zl zh en k = false) := by
  unfold hoP
  cases (fo (zl k) (en k) == some .lt || fo (zl k) (en k) == some .eq) <;> cases (fo (en k) (zh k) == some .lt) <;> simp

set_option maxRecDepth 100000 in
set_option maxHeartbeats 3200000 in
theorem law_some (b0 f0 b1 f1 b2 f2 b3 f3 b4 f4 n c0 c1 c2 c3 c4 : Nat) (zl zh bl bh en : Nat → Nat) (w : World) (hn0 : 0 < n) (hn : 40 * n ≤ 1048576)
    (h0 : FAt w b0 f0 n zl) (h1 : FAt w b1 f1 n zh) (h2 : FAt w b2 f2 n bl) (h3 : FAt w b3 f3 n bh) (h4 : FAt w b4 f4 n en) :
    Calls Try.prog 10 #[.slice (some ⟨b0, f0, none⟩) n c0, .slice (some ⟨b1, f1, none⟩) n c1, .slice (some ⟨b2, f2, none⟩) n c2, .slice (some ⟨b3, f3, none⟩) n c3, .slice (some ⟨b4, f4, none⟩) n c4] w fun e w' => e = .returned (.bool true) ∧ Below w.heap.size w w' := by
  have k0 := h0.lt hn0
  have k1 := h1.lt hn0
  have k2 := h2.lt hn0
  have k3 := h3.lt hn0
  have k4 := h4.lt hn0
  have H : Hid (FAt w b0 f0 n zl ∧ FAt w b1 f1 n zh ∧ FAt w b2 f2 n bl ∧ FAt w b3 f3 n bh ∧ FAt w b4 f4 n en) := ⟨h0, h1, h2, h3, h4⟩
  clear h0 h1 h2 h3 h4
  go_enter Try.func10, Try.ntmps10
  go_wp2_with fail
  refine (bytes_any _ _ _ _ _ _ _ _ _ _ _ _ _ _ _ _).mono ?_
  rintro e w' ⟨b, rfl, rfl⟩
  cases b
  · go_wp2_with fail
    go_ret
    exact ⟨rfl, Below.refl _ _⟩
  go_wp2_with fail
  refine (wf_some b0 f0 b1 f1 n c0 c1 zl zh _ (by omega) H.out.1 H.out.2.1).mono ?_
  rintro e w1 ⟨rfl, m1, rfl⟩
  rcases Bool.eq_false_or_eq_true (allB n (wfP zl zh)) with t1 | t1
  rotate_left
  · go_wp2_with fail
    go_ret
    exact ⟨rfl, below_drewN (Below.refl _ _) _⟩
  go_wp2_with fail
  refine (wf_some b2 f2 b3 f3 n c2 c3 bl bh _ (by omega) (by exact H.out.2.2.1.drewN) (by exact H.out.2.2.2.1.drewN)).mono ?_
  rintro e w1 ⟨rfl, m2, rfl⟩
  rcases Bool.eq_false_or_eq_true (allB n (wfP bl bh)) with t2 | t2
  rotate_left
  · go_wp2_with fail
    go_ret
    exact ⟨rfl, below_drewN (Below.refl _ _) _⟩
  go_wp2_with fail
  refine (ov_some b0 f0 b1 f1 b2 f2 b3 f3 n c0 c1 c2 c3 zl zh bl bh _ (by omega) (by exact H.out.1.drewN) (by exact H.out.2.1.drewN) (by exact H.out.2.2.1.drewN) (by exact H.out.2.2.2.1.drewN)).mono ?_
  rintro e w1 ⟨rfl, m3, rfl⟩
  rcases Bool.eq_false_or_eq_true (allB n (ovP zl zh bl bh)) with t3 | t3
  rotate_left
  · go_wp2_with fail
    go_ret
    exact ⟨rfl, below_drewN (Below.refl _ _) _⟩
  go_wp2_with fail
  refine (ho_some b2 f2 b3 f3 b4 f4 n c2 c3 c4 bl bh en _ (by omega) (by exact H.out.2.2.1.drewN) (by exact H.out.2.2.2.1.drewN) (by exact H.out.2.2.2.2.drewN)).mono ?_
  rintro e w1 ⟨rfl, m4, rfl⟩
  rcases Bool.eq_false_or_eq_true (allB n (hoP bl bh en)) with t4 | t4
  rotate_left
  · go_wp2_with fail
    go_ret
    exact ⟨rfl, below_drewN (Below.refl _ _) _⟩
  go_wp2_with fail
  obtain ⟨h0, h1, h2, h3, h4⟩ := H.out
  clear H
  refine (clone_at w'.heap.size b0 f0 n c0 zl _ (by simp) (by omega) k0 (by exact h0.drewN)).mono ?_
  rintro e w1 ⟨rfl, x0, y1, z1⟩
  have y1' : Below w'.heap.size w' w1 := (below_drewN (Below.refl _ _) _).trans y1
  have H1 := hide (And.intro x0 (And.intro y1' (And.intro (h1.below y1' k1) (And.intro (h2.below y1' k2) (And.intro (h3.below y1' k3) (h4.below y1' k4))))))
  clear x0 y1 y1' h0 h1 h2 h3 h4
  go_wp2_with fail
  obtain ⟨x0, y1, h1, h2, h3, h4⟩ := unhide H1
  clear H1
  refine (clone_at (w'.heap.size + 1) b1 f1 n c1 zh _ z1 (by omega) (by omega) h1).mono ?_
  rintro e w2 ⟨rfl, x1, y2, z2⟩
  have H1 := hide (And.intro (x0.below y2 (by omega)) (And.intro x1 (And.intro (y1.trans (y2.mono (by omega))) (And.intro (h2.below y2 (by omega)) (And.intro (h3.below y2 (by omega)) (h4.below y2 (by omega)))))))
  clear x0 x1 y1 y2 h1 h2 h3 h4 z1
  go_wp2_with fail
  obtain ⟨x0, x1, y1, h2, h3, h4⟩ := unhide H1
  clear H1
  refine (clone_at (w'.heap.size + 1 + 1) b2 f2 n c2 bl _ z2 (by omega) (by omega) h2).mono ?_
  rintro e w3 ⟨rfl, x2, y2, z3⟩
  have H1 := hide (And.intro (x0.below y2 (by omega)) (And.intro (x1.below y2 (by omega)) (And.intro x2 (And.intro (y1.trans (y2.mono (by omega))) (And.intro (h3.below y2 (by omega)) (h4.below y2 (by omega)))))))
  clear x0 x1 x2 y1 y2 h2 h3 h4 z2
  go_wp2_with fail
  obtain ⟨x0, x1, x2, y1, h3, h4⟩ := unhide H1
  clear H1
  refine (clone_at (w'.heap.size + 1 + 1 + 1) b3 f3 n c3 bh _ z3 (by omega) (by omega) h3).mono ?_
  rintro e w4 ⟨rfl, x3, y2, z4⟩
  have H1 := hide (And.intro (x0.below y2 (by omega)) (And.intro (x1.below y2 (by omega)) (And.intro (x2.below y2 (by omega)) (And.intro x3 (And.intro (y1.trans (y2.mono (by omega))) (h4.below y2 (by omega)))))))
  clear x0 x1 x2 x3 y1 y2 h3 h4 z3
  go_wp2_with fail
  obtain ⟨x0, x1, x2, x3, y1, h4⟩ := unhide H1
  clear H1
  refine (clone_at (w'.heap.size + 1 + 1 + 1 + 1) b4 f4 n c4 en _ z4 (by omega) (by omega) h4).mono ?_
  rintro e w5 ⟨rfl, x4, y2, z5⟩
  have H1 := hide (And.intro (x0.below y2 (by omega)) (And.intro (x1.below y2 (by omega)) (And.intro (x2.below y2 (by omega)) (And.intro (x3.below y2 (by omega)) (And.intro x4 (y1.trans (y2.mono (by omega))))))))
  clear x0 x1 x2 x3 x4 y1 y2 h4 z4 k0 k1 k2 k3 k4
  go_wp2_with fail
  obtain ⟨x0, x1, x2, x3, x4, y1⟩ := unhide H1
  clear H1
  have dims : ∀ i, i < n → Dim zl zh bl bh en (fun i => fmax (zl i) (bl i)) (fun i => fmin (zh i) (bh i)) i := fun i hi => dim_of (allB_iff.1 t1 i hi) (allB_iff.1 t2 i hi) (allB_iff.1 t3 i hi) (allB_iff.1 t4 i hi)
  have nn : ∀ i, i < n → fo (zl i) (bl i) ≠ none ∧ fo (zh i) (bh i) ≠ none := fun i hi => by
    obtain ⟨a, b, c, d, e, ha, hb, hc, hd, he, _⟩ := nums_of (allB_iff.1 t1 i hi) (allB_iff.1 t2 i hi) (allB_iff.1 t3 i hi) (allB_iff.1 t4 i hi)
    exact ⟨fo_ne_none ha hc, fo_ne_none hb hd⟩
  refine (zz_some (w'.heap.size) 0 (w'.heap.size + 1) 0 (w'.heap.size + 1 + 1) 0 (w'.heap.size + 1 + 1 + 1) 0 (w'.heap.size + 1 + 1 + 1 + 1) 0 n n n n n n zl zh bl bh en (fun i => fmax (zl i) (bl i)) (fun i => fmin (zh i) (bh i)) _ (by omega) x0 x1 x2 x3 x4
    (by omega) (by omega) (by omega) (by omega) (by omega) (fun i hi ts t w => run_fmax Try.prog ts t _ _ w (nn i hi).1) (fun i hi ts t w => run_fmin Try.prog ts t _ _ w (nn i hi).2)).mono ?_
  generalize (fun i => fmax (zl i) (bl i)) = lo at *
  generalize (fun i => fmin (zh i) (bh i)) = hi at *
  rintro e w6 ⟨y2, hz⟩
  have H1 := hide (And.intro (x0.below y2 (by omega)) (And.intro (x1.below y2 (by omega)) (And.intro (x2.below y2 (by omega)) (And.intro (x3.below y2 (by omega)) (And.intro (x4.below y2 (by omega)) (y1.trans (y2.mono (by omega))))))))
  clear x0 x1 x2 x3 x4 y1 y2 nn t1 t2 t3 t4 z5
  have HD := hide dims
  clear dims
  rcases hz with ⟨hm, rfl⟩ | ⟨s, ba, bb, s1, s2, s3, rfl, xa, xb⟩
  · have HM := hide hm
    clear hm
    go_wp2_with fail
    obtain ⟨x0, x1, x2, x3, x4, y1⟩ := unhide H1
    have t5 : allB n (hoP zl zh en) = true := allB_iff.2 fun i hi => by rw [(unhide HD i hi).inz, unhide HM i hi]; rfl
    refine (ho_some _ _ _ _ _ _ n n n n zl zh en _ (by omega) x0 x1 x4).mono ?_
    rintro e w7 ⟨rfl, m5, rfl⟩
    have Y1 := hide y1
    clear x0 x1 x2 x3 x4 y1
    go_wp2_with fail
    go_ret
    exact ⟨rfl, below_drewN (unhide Y1) _⟩
  · have HR : ∀ i, i < n → RF zl zh bl bh en (atF en lo hi) (fun i => if i = s then !blF en lo hi i else blF en lo hi i) s i := fun i hi => rf_of (unhide HD i hi) s2 s3
    generalize (atF en lo hi) = at_ at *
    generalize (fun i => if i = s then !blF en lo hi i else blF en lo hi i) = bel at *
    have t6 : allB n (hoP zl zh en) = false := allB_false s1 ((HR s s1).eq rfl)
    have HX := hide (And.intro HR (And.intro xa xb))
    clear HR xa xb HD s2 s3
    go_wp2_with fail
    obtain ⟨x0, x1, x2, x3, x4, y1⟩ := unhide H1
    refine (ho_some _ _ _ _ _ _ n n n n zl zh en _ (by omega) x0 x1 x4).mono ?_
    rintro e w7 ⟨rfl, m5, rfl⟩
    obtain ⟨HR, xa, xb⟩ := unhide HX
    have HY := hide (And.intro HR (And.intro xa (And.intro xb (And.intro x0 (And.intro x1 (And.intro x2 (And.intro x3 (And.intro x4 y1))))))))
    clear HR xa xb x0 x1 x2 x3 x4 y1 HX H1
    go_wp2
    go_loopw [15, 16, 17] (fun o1 o2 i wr => ∃ (k m : Nat) (o : Int), k ≤ n ∧ i = .int .i64 k ∧ o1 = .int .i64 o ∧ o2 = .int .i64 o ∧ wr = w6.drewN m ∧ Hid (o = outI s k)) (fun _ _ i _ => n - (intOf i).toNat)
    case atStart => exact ⟨0, m5, -1, Nat.zero_le _, rfl, rfl, rfl, rfl, rfl⟩
    case round =>
      obtain ⟨k, m, o, hk, rfl, rfl, rfl, rfl, HO⟩ := hrel
      by_cases hlt : k < n
      · obtain ⟨HR, xa, xb, x0, x1, x2, x3, x4, y1⟩ := unhide HY
        have hr := HR k hlt
        have g0 := x0 k hlt
        have g1 := x1 k hlt
        have g2 := x2 k hlt
        have g3 := x3 k hlt
        have g4 := x4 k hlt
        have g5 := xa k hlt
        have g6 := xb k hlt
        simp only [Nat.zero_add] at g0 g1 g2 g3 g4 g5 g6
        clear HY HR xa xb x0 x1 x2 x3 x4 y1 t6
        have p1 := hr.p1
        rcases Nat.lt_trichotomy k s with hks | hks | hks
        · have hz := hr.lt hks
          have p2 := hr.p2 (by omega)
          obtain ⟨q1, q2⟩ := hr.zt hz
          rcases ho_cases zl zh en k with ⟨_, c2⟩ | ⟨c1, c2, c3⟩ | ⟨_, _, c3⟩
          · rw [hz] at c2; cases c2
          rotate_left
          · rw [hz] at c3; cases c3
          have e1 : o = -1 := by rw [HO.out]; simp [outI]; omega
          subst e1
          rw [q2] at p1 p2 g6
          clear hr hz c3 HO q2
          go_wp2
          go_quiet ((go_at_call 29; refine (pos_any _ _ _ _ _).mono ?_; rintro e w'' ⟨rfl, rfl⟩; exact ⟨rfl, _, rfl⟩))
          go_wp2
          go_quiet (fail)
          go_wp2
          go_quiet (fail)
          go_wp2
          go_quiet ((go_at_call 29; refine (pos_any _ _ _ _ _).mono ?_; rintro e w'' ⟨rfl, rfl⟩; exact ⟨rfl, _, rfl⟩))
          go_wp2
          go_roundw
          case rel => exact ⟨k + 1, _, -1, hlt, by go_num, rfl, rfl, rfl, by show (-1 : Int) = outI s (k + 1); unfold outI; rw [if_neg (by omega)]⟩
          case measure => simp [intOf]; omega
        · have hz := hr.eq hks
          have p3 := hr.p3 hks
          have e1 : o = -1 := by rw [HO.out]; simp [outI]; omega
          subst e1
          have hs1 : (k : Int) = outI s (k + 1) := by unfold outI; rw [if_pos (by omega), hks]
          have HS := hide hs1
          clear hs1
          rcases ho_cases zl zh en k with ⟨c1, _⟩ | ⟨_, _, c3⟩ | ⟨c1, c2, _⟩
          rotate_left
          · rw [hz] at c3; cases c3
          all_goals
            clear hr hz HO hks
            go_wp2
            go_quiet ((go_at_call 29; refine (pos_any _ _ _ _ _).mono ?_; rintro e w'' ⟨rfl, rfl⟩; exact ⟨rfl, _, rfl⟩))
            go_wp2
            go_quiet (fail)
            go_wp2
            go_quiet (fail)
            go_wp2
            go_quiet ((go_at_call 29; refine (pos_any _ _ _ _ _).mono ?_; rintro e w'' ⟨rfl, rfl⟩; exact ⟨rfl, _, rfl⟩))
            go_wp2
            go_roundw
            case rel => exact ⟨k + 1, _, k, hlt, by go_num, rfl, rfl, rfl, unhide HS⟩
            case measure => simp [intOf]; omega
        · have p2 := hr.p2 (by omega)
          have e1 : o = s := by rw [HO.out]; simp [outI]; omega
          subst e1
          have hs1 : (s : Int) = outI s (k + 1) := by unfold outI; rw [if_pos (by omega)]
          have HS := hide hs1
          clear hs1
          rcases ho_cases zl zh en k with ⟨c1, _⟩ | ⟨c1, c2, c3⟩ | ⟨c1, c2, _⟩
          rotate_left
          · obtain ⟨q1, q2⟩ := hr.zt c3
            rw [q2] at p1 p2 g6
            clear hr c3 HO q2
            go_wp2
            go_quiet ((go_at_call 29; refine (pos_any _ _ _ _ _).mono ?_; rintro e w'' ⟨rfl, rfl⟩; exact ⟨rfl, _, rfl⟩))
            go_wp2
            go_quiet (fail)
            go_wp2
            go_quiet (fail)
            go_wp2
            go_quiet ((go_at_call 29; refine (pos_any _ _ _ _ _).mono ?_; rintro e w'' ⟨rfl, rfl⟩; exact ⟨rfl, _, rfl⟩))
            go_wp2
            go_roundw
            case rel => exact ⟨k + 1, _, s, hlt, by go_num, rfl, rfl, rfl, unhide HS⟩
            case measure => simp [intOf]; omega
          all_goals
            clear hr HO
            go_wp2
            go_quiet ((go_at_call 29; refine (pos_any _ _ _ _ _).mono ?_; rintro e w'' ⟨rfl, rfl⟩; exact ⟨rfl, _, rfl⟩))
            go_wp2
            go_quiet (fail)
            go_wp2
            go_quiet (fail)
            go_wp2
            go_quiet ((go_at_call 29; refine (pos_any _ _ _ _ _).mono ?_; rintro e w'' ⟨rfl, rfl⟩; exact ⟨rfl, _, rfl⟩))
            go_wp2
            go_roundw
            case rel => exact ⟨k + 1, _, s, hlt, by go_num, rfl, rfl, rfl, unhide HS⟩
            case measure => simp [intOf]; omega
      · obtain rfl : k = n := by omega
        have e1 : o = s := by rw [HO.out]; simp [outI]; omega
        subst e1
        have Y1 := hide (unhide HY).2.2.2.2.2.2.2.2
        clear HY HO t6
        go_wp2
        go_ret
        exact ⟨rfl, below_drewN (unhide Y1) _⟩
end Go.Proofs.Qxb6600053a
