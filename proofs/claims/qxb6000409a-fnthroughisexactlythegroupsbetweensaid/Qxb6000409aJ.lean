import Derived.Test.Qxb6000409aI
namespace Go.Proofs.Qxb6000409a
open Go.RowKit Go.Maps

set_option maxRecDepth 100000 in
set_option maxHeartbeats 3200000 in
theorem new_some (b f b2 f2 n c c2 : Nat) (G P : Nat → ByteArray) (w : World) (hn : n ≤ 256) (hn0 : 0 < n) (hG : SAt w b f n G) (hP : SAt w b2 f2 n P) (hT : Good n G P) (hGs : ∀ i, i < n → (G i).size ≤ maxLen) (hPs : ∀ i, i < n → (P i).size ≤ maxLen) :
    Calls Try.prog 13 #[.slice (some ⟨b, f, none⟩) n c, .slice (some ⟨b2, f2, none⟩) n c2] w (NewRes w n G P) := by
  have hbs := hG.lt (by omega)
  have hbs2 := hP.lt (by omega)
  have hmm := @run_makeMap Try.prog
  go_enter Try.func13, Try.ntmps13
  go_wp2
  clear hmm
  go_loopw [18] (fun i wr => ∃ k, k ≤ n ∧ i = .int .i64 k ∧ Hid (NInv w w.heap.size k 0 (fmap G (strs P) k) (fun _ => none) wr)) (fun i _ => n - (intOf i).toNat)
  case atStart => exact ⟨0, Nat.zero_le _, rfl, ninv_start w _ _⟩
  case round =>
    obtain ⟨k, hk, rfl, HB⟩ := hrel
    by_cases hlt : k < n
    · have hGs' := hGs k hlt
      have hPs' := hPs k hlt
      have hb := HB.out.below
      have g0 := hG.below hb k hlt
      have p0 := hP.below hb k hlt
      obtain ⟨w1, hr1, hN1, hc1, kp1⟩ := HB.out.drew.setPar (by omega) hGs' (.string (P k))
      have q0 := HB.out.p0
      have q1 := hN1.p0
      have q2 := hN1.p1
      have p1 := hP.below hN1.below k hlt
      have HN1 := hide hN1
      have HC1 := hide hc1
      have HPs := hide hPs'
      clear hb hN1 hc1 kp1 HB hGs hPs hGs' hPs' hT
      go_wp2
      go_region_held3 (fun w' => w'.cell? ⟨w.heap.size + 4, 0, none⟩ = some (.map (some (w.heap.size + 1))) ∧ w'.cell? ⟨b2, f2 + k, none⟩ = some (.string (P k))) (go_keep) (fail)
      rcases Bool.eq_false_or_eq_true (emp (P k)) with t | t
      · have t' : (P k).toList.isEmpty = true := t
        go_wp2
        go_roundw
        case rel => exact ⟨k + 1, hlt, by go_num, HN1⟩
        case measure => simp [intOf]; omega
      · have t' : (P k).toList.isEmpty = false := t
        obtain ⟨v, v', w2, w3, r1, r2, r3, r4, kp2, hN2, kp3⟩ := HN1.out.drew.setCh (let ⟨fc, hc⟩ := HC1.out; ⟨fc, hc.drew⟩) (Nat.lt_succ_self k) (by omega) HPs.out (g := G k)
        have r2' : (Instr.lookup 29 (.map (some (w.heap.size + 2))) (.string (P k)) false).run Try.prog (w1.alloc (.cells #[.string (G k)] 9)).drew = .ok v (w1.alloc (.cells #[.string (G k)] 9)).drew := r2
        clear r2
        have x1 := (kp2.cell 1 (j := w.heap.size + 4) (by omega) (by omega)).trans q2
        have x2 := (kp2.cell (f2 + k) (j := b2) (by omega) (by omega)).trans p1
        have x3 := (kp3.cell 1 (j := w.heap.size + 4) (by omega) (by omega)).trans q2
        have x4 := (kp3.cell (f2 + k) (j := b2) (by omega) (by omega)).trans p1
        have HN2 := hide hN2
        clear hN2 HN1 HC1 kp2 kp3 t hr1
        go_wp2
        go_region_held3 (fun w' => w'.cell? ⟨w.heap.size + 4, 1, none⟩ = some (.map (some (w.heap.size + 2))) ∧ w'.cell? ⟨b2, f2 + k, none⟩ = some (.string (P k))) (go_keep) (refine step_append_eq rfl (.tmp 47) (.tmp 49) 22 rfl v (.slice (some ⟨w1.heap.size, 0, none⟩) 1 1) v' w2 (by simp [Act.eval]) (by simp [Act.eval]) r3 ?_)
        all_goals go_wp2
        all_goals go_roundw
        case rel => exact ⟨k + 1, hlt, by go_num, HN2⟩
        case measure => simp [intOf]; omega
        case rel => exact ⟨k + 1, hlt, by go_num, HN2⟩
        case measure => simp [intOf]; omega
    · obtain rfl : k = n := by omega
      have HT := hide hT
      have HU := hide hT.isUp
      clear hT
      go_wp2
      go_loopw [54] (fun i wr => ∃ l, l ≤ k ∧ i = .int .i64 l ∧ Hid (NInv w w.heap.size k l (fmap G (strs P) k) (fmap G (deps (dpt k G P)) l) wr)) (fun i _ => k - (intOf i).toNat)
      case atStart => exact ⟨0, Nat.zero_le _, rfl, HB⟩
      case round =>
        obtain ⟨l, hl, rfl, HI⟩ := hrel
        have q0 := HI.out.p0
        by_cases hll : l < k
        · have g0 := hG.below HI.out.below l hll
          have hpl := par_lookup HI.out.par HT.out hll (hGs l hll)
          have e1 : P l = nm G (it (up k G P) 1 l) := by
            rw [it, if_neg (by omega), Int.toNat_natCast]; exact HT.out.nm hll
          rw [e1] at hpl
          clear e1
          go_wp2
          go_loop [10, 11] (fun d a => ∃ s : Nat, s ≤ dpt k G P l ∧ d = .int .i64 s ∧ a = .string (nm G (it (up k G P) (s + 1) l))) (fun d _ => dpt k G P l - (intOf d).toNat)
          case atStart => exact ⟨0, Nat.zero_le _, rfl, rfl⟩
          case round =>
            obtain ⟨s, hs, rfl, rfl⟩ := hrel
            have hlim := HU.out.lim l hll
            by_cases hsd : s < dpt k G P l
            · obtain ⟨z, hz, ez, _⟩ := HU.out.it_in (s + 1) l hll hsd
              have en : nm G (it (up k G P) (s + 1) l) = G z := by rw [ez, nm_nat]
              have hne : (G z).toList.isEmpty = false := HT.out.ne z hz
              have hpz := par_lookup HI.out.par HT.out hz (hGs z hz)
              have e2 : P z = nm G (it (up k G P) (s + 1 + 1) l) := by
                rw [it_succ, ez, if_neg (by omega), Int.toNat_natCast]; exact HT.out.nm hz
              have E2 := hide e2
              clear e2 ez
              rw [en]
              clear hpl en
              go_wp2
              go_round
              case rel => exact ⟨s + 1, hsd, by go_num, by rw [E2.out]⟩
              case measure => simp [intOf]; omega
            · obtain rfl : s = dpt k G P l := by omega
              have en : nm G (it (up k G P) (dpt k G P l + 1) l) = e0 := by rw [HU.out.it_end _ l hll (Nat.lt_succ_self _), nm_root]
              have hem : e0.toList.isEmpty = true := by rw [e0_list]; rfl
              obtain ⟨w1, hr1, hN1⟩ := HI.out.setDep (by omega) (hGs l hll) (.int .i64 (dpt k G P l))
              have HN1 := hide hN1
              clear hN1
              rw [en]
              clear en hpl
              have q2 := HI.out.p2
              go_wp2
              go_roundw
              case rel => exact ⟨l + 1, hll, by go_num, HN1⟩
              case measure => simp [intOf]; omega
        · obtain rfl : l = k := by omega
          have q1 := HI.out.p1
          have q2 := HI.out.p2
          obtain ⟨c0, c1, c2', z0, z1, z2⟩ := HI.out.resCells
          go_wp2
          refine bodyPost_ret (v := .agg #[.map (some (w.heap.size + 1)), .map (some (w.heap.size + 2)), .map (some (w.heap.size + 3))]) ?_ rfl ?_
          · simp [results, Try.results13, go_sem, c0, c1, c2']
          · exact HI.out.done _ _ _
end Go.Proofs.Qxb6000409a
