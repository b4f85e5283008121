import Derived.Test.Qxb6600053aCe
import Derived.Test.Qxb6600053aCf
namespace Go.Proofs.Qxb6600053a
open Go.RowKit

/-- cloneFs at a world whose size has a name -/
theorem cclone_at (B b f n c : Nat) (x : Nat → Nat) (w : World) (hB : w.heap.size = B) (hn : n ≤ 1048576) (hbs : b < B) (h0 : FAt w b f n x) :
    Calls Try.prog 12 #[.slice (some ⟨b, f, none⟩) n c] w fun e w' => e = .returned (.slice (some ⟨B, 0, none⟩) n n) ∧ FAt w' B 0 n x ∧ Below B w w' ∧ w'.heap.size = B + 1 := by
  subst hB
  exact clone_some b f n c x w hn hbs h0

theorem pcs_bound {n : Nat} {zl zh ol oh : Nat → Nat} {kk : Int} {Ps : List ((Nat → Nat) × (Nat → Nat))} (h : CutIs n zl zh ol oh kk Ps) : Ps.length ≤ 2 * n + 1 := by
  rcases h with ⟨_, rfl⟩ | ⟨_, rfl⟩ | ⟨_, rfl⟩
  · simp
  · simp
  · have := pcs_len zl zh ol oh kk n; omega
theorem cnt_take (n : Nat) (p : Nat → Nat) (Ps : List ((Nat → Nat) × (Nat → Nat))) (j : Nat) (q : (Nat → Nat) × (Nat → Nat)) (h : Ps[j]? = some q) : cnt n p (Ps.take (j + 1)) = cnt n p (Ps.take j) + one (inB n p q) := by
  have hj : j < Ps.length := (List.getElem?_eq_some_iff.1 h).1
  have e : Ps.take (j + 1) = Ps.take j ++ [q] := by
    rw [List.take_add_one, h]; rfl
  rw [e, cnt_append]
  congr 1
  have := cnt_if (n := n) (p := p) true q
  simpa using this
theorem lt_of_cellQ {w : World} {b o : Nat} {v : Value} (h : w.cell? ⟨b, o, none⟩ = some v) : b < w.heap.size := by
  by_cases hb : b < w.heap.size
  · exact hb
  · unfold World.cell? at h
    have : w.heap[b]? = none := by simp; omega
    simp [this] at h
theorem cnt_le (n : Nat) (p : Nat → Nat) (Ps : List ((Nat → Nat) × (Nat → Nat))) : cnt n p Ps ≤ Ps.length := List.countP_le_length

set_option maxRecDepth 100000 in
set_option maxHeartbeats 3200000 in
/-- no dimension -/
theorem claw_zero (a0 a1 a2 a3 a4 : Option Addr) (c0 c1 c2 c3 c4 : Nat) (kk : Int) (w : World) :
    Calls Try.prog 6 #[.slice a0 0 c0, .slice a1 0 c1, .slice a2 0 c2, .slice a3 0 c3, .slice a4 0 c4, .int .i64 kk] w fun e w' => e = .returned (.bool true) ∧ Below w.heap.size w w' := by
  go_enter Try.func6, Try.ntmps6
  go_wp2_with fail
  refine (cbytes_any _ _ _ _ _ _ _ _ _ _ _ _ _ _ _ _ _).mono ?_
  rintro e w' ⟨b, rfl, rfl⟩
  cases b
  · go_wp2_with fail
    go_ret
    exact ⟨rfl, Below.refl _ _⟩
  · go_wp2_with fail
    refine (wf_zero _ _ _ _ _).mono ?_
    rintro e w' ⟨rfl, rfl⟩
    go_wp2_with fail
    refine (wf_zero _ _ _ _ _).mono ?_
    rintro e w' ⟨rfl, rfl⟩
    go_wp2_with fail
    refine (clone_zero _ _ _).mono ?_
    rintro e w1 ⟨⟨a0', c0', rfl⟩, hb1⟩
    go_wp2_with fail
    refine (clone_zero _ _ _).mono ?_
    rintro e w2 ⟨⟨a1', c1', rfl⟩, hb2⟩
    go_wp2_with fail
    refine (clone_zero _ _ _).mono ?_
    rintro e w3 ⟨⟨a2', c2', rfl⟩, hb3⟩
    go_wp2_with fail
    refine (clone_zero _ _ _).mono ?_
    rintro e w4 ⟨⟨a3', c3', rfl⟩, hb4⟩
    go_wp2_with fail
    refine (clone_zero _ _ _).mono ?_
    rintro e w5 ⟨⟨a4', c4', rfl⟩, hb5⟩
    have hb : Hid (Below w'.heap.size w' w5) := (((hb1.trans (hb2.mono hb1.size)).trans (hb3.mono (Nat.le_trans hb1.size hb2.size))).trans (hb4.mono (Nat.le_trans (Nat.le_trans hb1.size hb2.size) hb3.size))).trans (hb5.mono (Nat.le_trans (Nat.le_trans (Nat.le_trans hb1.size hb2.size) hb3.size) hb4.size))
    clear hb1 hb2 hb3 hb4 hb5
    go_wp2_with fail
    refine (zcut_zero _ _ _ _ _ _ _ _ _ _).mono ?_
    rintro e w6 ⟨rfl, hb6⟩
    go_wp2_with fail
    refine wp_loop_rounds 1 ?_
    rw [rounds_succ]
    go_wp2_with fail
    refine (ho_zero _ _ _ _ _ _ _).mono ?_
    rintro e w7 ⟨rfl, rfl⟩
    go_wp2_with fail
    refine (sl_zero _ _ _ _ _ _ _ _).mono ?_
    rintro e w7 ⟨rfl, rfl⟩
    go_wp2_with fail
    go_ret
    exact ⟨rfl, hb.out.trans (hb6.mono hb.out.size)⟩

set_option maxRecDepth 100000 in
set_option maxHeartbeats 6400000 in
theorem claw_some (b0 f0 b1 f1 b2 f2 b3 f3 b4 f4 n c0 c1 c2 c3 c4 : Nat) (kk : Int) (zl zh ol oh p : Nat → Nat) (w : World) (hn0 : 0 < n) (hn : n ≤ 1024)
    (h0 : FAt w b0 f0 n zl) (h1 : FAt w b1 f1 n zh) (h2 : FAt w b2 f2 n ol) (h3 : FAt w b3 f3 n oh) (h4 : FAt w b4 f4 n p) :
    Calls Try.prog 6 #[.slice (some ⟨b0, f0, none⟩) n c0, .slice (some ⟨b1, f1, none⟩) n c1, .slice (some ⟨b2, f2, none⟩) n c2, .slice (some ⟨b3, f3, none⟩) n c3, .slice (some ⟨b4, f4, none⟩) n c4, .int .i64 kk] w fun e w' => e = .returned (.bool true) ∧ Below w.heap.size w w' := by
  have k0 := h0.lt' hn0
  have k1 := h1.lt' hn0
  have k2 := h2.lt' hn0
  have k3 := h3.lt' hn0
  have k4 := h4.lt' hn0
  have H : Hid (FAt w b0 f0 n zl ∧ FAt w b1 f1 n zh ∧ FAt w b2 f2 n ol ∧ FAt w b3 f3 n oh ∧ FAt w b4 f4 n p) := ⟨h0, h1, h2, h3, h4⟩
  clear h0 h1 h2 h3 h4
  go_enter Try.func6, Try.ntmps6
  go_wp2_with fail
  refine (cbytes_any _ _ _ _ _ _ _ _ _ _ _ _ _ _ _ _ _).mono ?_
  rintro e w' ⟨b, rfl, rfl⟩
  cases b
  · go_wp2_with fail
    go_ret
    exact ⟨rfl, Below.refl _ _⟩
  go_wp2_with fail
  refine (wf_some b0 f0 b1 f1 n c0 c1 zl zh _ (by omega) H.out.1 H.out.2.1).mono ?_
  rintro e w1 ⟨rfl, m1, rfl⟩
  rcases Bool.eq_false_or_eq_true (allB n (wfP zl zh)) with t1 | t1
  rotate_left
  · go_wp2_with fail
    go_ret
    exact ⟨rfl, below_drewN (Below.refl _ _) _⟩
  go_wp2_with fail
  refine (wf_some b2 f2 b3 f3 n c2 c3 ol oh _ (by omega) (by exact H.out.2.2.1.drewN) (by exact H.out.2.2.2.1.drewN)).mono ?_
  rintro e w1 ⟨rfl, m2, rfl⟩
  rcases Bool.eq_false_or_eq_true (allB n (wfP ol oh)) with t2 | t2
  rotate_left
  · go_wp2_with fail
    go_ret
    exact ⟨rfl, below_drewN (Below.refl _ _) _⟩
  go_wp2_with fail
  obtain ⟨h0, h1, h2, h3, h4⟩ := H.out
  clear H
  refine (cclone_at w'.heap.size b0 f0 n c0 zl _ (by simp) (by omega) k0 (by exact h0.drewN)).mono ?_
  rintro e w1 ⟨rfl, x0, y1, z1⟩
  have y1' : Below w'.heap.size w' w1 := (below_drewN (Below.refl _ _) _).trans y1
  have H1 := hide (And.intro x0 (And.intro y1' (And.intro (h1.below y1' k1) (And.intro (h2.below y1' k2) (And.intro (h3.below y1' k3) (h4.below y1' k4))))))
  clear x0 y1 y1' h0 h1 h2 h3 h4
  go_wp2_with fail
  obtain ⟨x0, y1, h1, h2, h3, h4⟩ := unhide H1
  clear H1
  refine (cclone_at (w'.heap.size + 1) b1 f1 n c1 zh _ z1 (by omega) (by omega) h1).mono ?_
  rintro e w2 ⟨rfl, x1, y2, z2⟩
  have H1 := hide (And.intro (x0.below y2 (by omega)) (And.intro x1 (And.intro (y1.trans (y2.mono (by omega))) (And.intro (h2.below y2 (by omega)) (And.intro (h3.below y2 (by omega)) (h4.below y2 (by omega)))))))
  clear x0 x1 y1 y2 h1 h2 h3 h4 z1
  go_wp2_with fail
  obtain ⟨x0, x1, y1, h2, h3, h4⟩ := unhide H1
  clear H1
  refine (cclone_at (w'.heap.size + 1 + 1) b2 f2 n c2 ol _ z2 (by omega) (by omega) h2).mono ?_
  rintro e w3 ⟨rfl, x2, y2, z3⟩
  have H1 := hide (And.intro (x0.below y2 (by omega)) (And.intro (x1.below y2 (by omega)) (And.intro x2 (And.intro (y1.trans (y2.mono (by omega))) (And.intro (h3.below y2 (by omega)) (h4.below y2 (by omega)))))))
  clear x0 x1 x2 y1 y2 h2 h3 h4 z2
  go_wp2_with fail
  obtain ⟨x0, x1, x2, y1, h3, h4⟩ := unhide H1
  clear H1
  refine (cclone_at (w'.heap.size + 1 + 1 + 1) b3 f3 n c3 oh _ z3 (by omega) (by omega) h3).mono ?_
  rintro e w4 ⟨rfl, x3, y2, z4⟩
  have H1 := hide (And.intro (x0.below y2 (by omega)) (And.intro (x1.below y2 (by omega)) (And.intro (x2.below y2 (by omega)) (And.intro x3 (And.intro (y1.trans (y2.mono (by omega))) (h4.below y2 (by omega)))))))
  clear x0 x1 x2 x3 y1 y2 h3 h4 z3
  go_wp2_with fail
  obtain ⟨x0, x1, x2, x3, y1, h4⟩ := unhide H1
  clear H1
  refine (cclone_at (w'.heap.size + 1 + 1 + 1 + 1) b4 f4 n c4 p _ z4 (by omega) (by omega) h4).mono ?_
  rintro e w5 ⟨rfl, x4, y2, z5⟩
  have H1 := hide (And.intro (x0.below y2 (by omega)) (And.intro (x1.below y2 (by omega)) (And.intro (x2.below y2 (by omega)) (And.intro (x3.below y2 (by omega)) (And.intro x4 (y1.trans (y2.mono (by omega))))))))
  clear x0 x1 x2 x3 x4 y1 y2 h4 z4 k0 k1 k2 k3 k4
  go_wp2_with fail
  obtain ⟨x0, x1, x2, x3, x4, y1⟩ := unhide H1
  clear H1
  refine (zcut_some _ _ _ _ _ _ _ _ n _ _ _ _ kk zl zh ol oh _ hn0 (by omega) x0 x1 x2 x3).mono ?_
  rintro e w6 ⟨v, Ps, rfl, ⟨ao, cap, g, rfl, hao, hps⟩, y2, hci⟩
  have hcnt := hide (cut_count (p := p) t1 t2 hci)
  have hlen := pcs_bound hci
  have H1 := hide (And.intro (x0.below y2 (by omega)) (And.intro (x1.below y2 (by omega)) (And.intro (x2.below y2 (by omega)) (And.intro (x3.below y2 (by omega)) (And.intro (x4.below y2 (by omega)) (y1.trans (y2.mono (by omega))))))))
  clear x0 x1 x2 x3 x4 y1 y2 t1 t2 z5 hci
  have hy6 : w'.heap.size ≤ w6.heap.size := (unhide H1).2.2.2.2.2.size
  have HP := hide hps
  have HA := hide hao
  clear hps hao
  go_wp2_with fail
  by_cases hpos : 0 < Ps.length
  · obtain rfl := unhide HA hpos
    go_loopw [15, 16] (fun cn j wr => ∃ (jj c : Nat), jj ≤ Ps.length ∧ c ≤ jj ∧ j = .int .i64 jj ∧ cn = .int .i64 c ∧ Hid (c = cnt n p (Ps.take jj)) ∧ Hid (Below w6.heap.size w6 wr)) (fun _ j _ => Ps.length - (intOf j).toNat)
    case atStart => exact ⟨0, 0, Nat.zero_le _, Nat.le_refl _, rfl, rfl, rfl, Below.refl _ _⟩
    case round =>
      obtain ⟨jj, c, hj, hc, rfl, rfl, HC, HB⟩ := hrel
      by_cases hlt : jj < Ps.length
      · obtain ⟨pc, hpc⟩ : ∃ pc, Ps[jj]? = some pc := ⟨Ps[jj], List.getElem?_eq_getElem hlt⟩
        obtain ⟨pa, fa, ca, pb, fb, cb, q0, q1, qa, qb⟩ := unhide HP jj pc hpc
        have hstep := hide (cnt_take n p Ps jj pc hpc)
        have lg := lt_of_cellQ q0
        have u0 : wr.cell? ⟨g, jj * 2, none⟩ = some (.slice (some ⟨pa, fa, none⟩) n ca) := by rw [HB.out.cell (p := ⟨g, jj * 2, none⟩) lg]; exact q0
        have u1 : wr.cell? ⟨g, jj * 2 + 1, none⟩ = some (.slice (some ⟨pb, fb, none⟩) n cb) := by rw [HB.out.cell (p := ⟨g, jj * 2 + 1, none⟩) lg]; exact q1
        have la := qa.lt' hn0
        have lb := qb.lt' hn0
        have QA := hide (And.intro (qa.below HB.out la) (qb.below HB.out lb))
        have sz := HB.out.size
        clear q0 q1 qa qb hpc lg
        go_wp2_with fail
        obtain ⟨x0, x1, x2, x3, x4, y1⟩ := unhide H1
        have lp := x4.lt' hn0
        refine (ho_some pa fa pb fb _ _ n ca cb n pc.1 pc.2 p _ (by omega) ?_ ?_ ?_).mono ?_
        · exact (unhide QA).1.allocd (by omega)
        · exact (unhide QA).2.allocd (by omega)
        · exact (x4.below HB.out lp).allocd (by omega)
        rintro e w7 ⟨rfl, m5, rfl⟩
        have HB2 : Hid (Below w6.heap.size w6 ((wr.alloc (.cells #[.slice (some ⟨pa, fa, none⟩) n ca, .slice (some ⟨pb, fb, none⟩) n cb] 26)).drewN m5)) := below_drewN (HB.out.alloc sz _) _
        clear x0 x1 x2 x3 x4 y1 QA HB u0 u1
        obtain ⟨tb, htb⟩ : ∃ tb, allB n (hoP pc.1 pc.2 p) = tb := ⟨_, rfl⟩
        cases tb
        · have hs2 := hide (by have h := hstep.out; rw [show inB n p pc = false from htb] at h; exact h : cnt n p (Ps.take (jj + 1)) = cnt n p (Ps.take jj) + one false)
          go_wp2
          go_roundw
          case rel => exact ⟨jj + 1, c, hlt, by omega, by go_num, rfl, by show _ = _; rw [hs2.out, ← HC.out]; rfl, HB2⟩
          case measure => simp [intOf]; omega
        · have hs2 := hide (by have h := hstep.out; rw [show inB n p pc = true from htb] at h; exact h : cnt n p (Ps.take (jj + 1)) = cnt n p (Ps.take jj) + one true)
          go_wp2
          go_roundw
          case rel => exact ⟨jj + 1, c + 1, hlt, by omega, by go_num, by go_num, by show _ = _; rw [hs2.out, ← HC.out]; rfl, HB2⟩
          case measure => simp [intOf]; omega
      · have HC2 : Hid (c = one (allB n (hoP zl zh p) && !allB n (slP ol oh p kk))) := by
          show c = _
          rw [HC.out, List.take_of_length_le (by omega)]
          exact hcnt.out
        clear HC hcnt HP
        go_wp2_with fail
        obtain ⟨x0, x1, x2, x3, x4, y1⟩ := unhide H1
        have l0 := x0.lt' hn0
        have l1 := x1.lt' hn0
        have l2 := x2.lt' hn0
        have l3 := x3.lt' hn0
        have l4 := x4.lt' hn0
        refine (ho_some _ _ _ _ _ _ n n n n zl zh p _ (by omega) (x0.below HB.out l0) (x1.below HB.out l1) (x4.below HB.out l4)).mono ?_
        rintro e w7 ⟨rfl, m5, rfl⟩
        have HX := hide (And.intro (x2.below HB.out l2) (And.intro (x3.below HB.out l3) (And.intro (x4.below HB.out l4) (y1.trans (HB.out.mono hy6)))))
        clear x0 x1 x2 x3 x4 y1 HB l0 l1 l2 l3 l4
        obtain ⟨tz, htz⟩ : ∃ tb, allB n (hoP zl zh p) = tb := ⟨_, rfl⟩
        cases tz
        · have hc0 : c = 0 := by rw [HC2.out, htz]; rfl
          subst hc0
          clear HC2
          go_wp2_with fail
          go_ret
          exact ⟨rfl, below_drewN (unhide HX).2.2.2 _⟩
        · go_wp2_with fail
          refine (sl_some _ _ _ _ _ _ n n n n kk ol oh p _ (by omega) (by exact (unhide HX).1.drewN) (by exact (unhide HX).2.1.drewN) (by exact (unhide HX).2.2.1.drewN)).mono ?_
          rintro e w8 ⟨rfl, m6, rfl⟩
          obtain ⟨ts, hts⟩ : ∃ tb, allB n (slP ol oh p kk) = tb := ⟨_, rfl⟩
          cases ts
          · have hc0 : c = 1 := by rw [HC2.out, htz, hts]; rfl
            subst hc0
            clear HC2
            go_wp2_with fail
            go_ret
            exact ⟨rfl, below_drewN (unhide HX).2.2.2 _⟩
          · have hc0 : c = 0 := by rw [HC2.out, htz, hts]; rfl
            subst hc0
            clear HC2
            go_wp2_with fail
            go_ret
            exact ⟨rfl, below_drewN (unhide HX).2.2.2 _⟩
  · have hz : Ps.length = 0 := by omega
    have HC2 : Hid (0 = one (allB n (hoP zl zh p) && !allB n (slP ol oh p kk))) := by
      show 0 = _
      rw [← hcnt.out]
      have := cnt_le n p Ps
      omega
    have HB : Hid (Below w6.heap.size w6 w6) := Below.refl _ _
    clear hcnt HP HA hpos
    refine wp_loop_rounds 1 ?_
    rw [rounds_succ]
    go_wp2_with fail
    obtain ⟨x0, x1, x2, x3, x4, y1⟩ := unhide H1
    have l0 := x0.lt' hn0
    have l1 := x1.lt' hn0
    have l2 := x2.lt' hn0
    have l3 := x3.lt' hn0
    have l4 := x4.lt' hn0
    refine (ho_some _ _ _ _ _ _ n n n n zl zh p _ (by omega) (x0.below HB.out l0) (x1.below HB.out l1) (x4.below HB.out l4)).mono ?_
    rintro e w7 ⟨rfl, m5, rfl⟩
    have HX := hide (And.intro (x2.below HB.out l2) (And.intro (x3.below HB.out l3) (And.intro (x4.below HB.out l4) (y1.trans (HB.out.mono hy6)))))
    clear x0 x1 x2 x3 x4 y1 HB l0 l1 l2 l3 l4
    obtain ⟨tz, htz⟩ : ∃ tb, allB n (hoP zl zh p) = tb := ⟨_, rfl⟩
    cases tz
    · clear HC2
      go_wp2_with fail
      go_ret
      exact ⟨rfl, below_drewN (unhide HX).2.2.2 _⟩
    · go_wp2_with fail
      refine (sl_some _ _ _ _ _ _ n n n n kk ol oh p _ (by omega) (by exact (unhide HX).1.drewN) (by exact (unhide HX).2.1.drewN) (by exact (unhide HX).2.2.1.drewN)).mono ?_
      rintro e w8 ⟨rfl, m6, rfl⟩
      obtain ⟨ts, hts⟩ : ∃ tb, allB n (slP ol oh p kk) = tb := ⟨_, rfl⟩
      cases ts
      · have hc0 := HC2.out
        rw [htz, hts] at hc0
        exact absurd hc0 (by simp [one])
      · clear HC2
        go_wp2_with fail
        go_ret
        exact ⟨rfl, below_drewN (unhide HX).2.2.2 _⟩
end Go.Proofs.Qxb6600053a
