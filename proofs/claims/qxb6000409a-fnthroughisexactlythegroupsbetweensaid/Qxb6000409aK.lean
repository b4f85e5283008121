import Derived.Test.Qxb6000409aI
namespace Go.Proofs.Qxb6000409a
open Go.RowKit Go.Maps

/-- the parent of a place that is no root -/
theorem Good.parent {n : Nat} {G P : Nat → ByteArray} (h : Good n G P) {y : Nat} (hy : y < n) (hd : dpt n G P y ≠ 0) : ∃ z : Nat, z < n ∧ up n G P y = z ∧ dpt n G P y = dpt n G P z + 1 ∧ P y = G z := by
  rcases h.isUp.par y hy with ⟨_, h2⟩ | ⟨z, hz, h1, h2⟩
  · exact absurd h2 hd
  · exact ⟨z, hz, h1, h2, by rw [h.nm hy, h1, nm_nat]⟩

/-- lca: the call answers the name of a place whose places above are those above every destination -/
def LcaRes (w : World) (n m : Nat) (G P : Nat → ByteArray) (ix : Nat → Nat) (e : Ending) (w' : World) : Prop :=
  ∃ l, l < n ∧ e = .returned (.string (G l)) ∧ (∀ x, Anc (up n G P) x l ↔ ∀ i, i < m → Anc (up n G P) x (ix i)) ∧ Below w.heap.size w w'

set_option maxRecDepth 100000 in
set_option maxHeartbeats 3200000 in
theorem lca_some (mp mc md b f n m c : Nat) (G P X : Nat → ByteArray) (ix : Nat → Nat) (w : World) (hm : m ≤ 256) (hm0 : 0 < m) (hc : m ≤ c) (hX : SAt w b f m X) (hT : Good n G P)
    (hx : ∀ i, i < m → ix i < n ∧ X i = G (ix i)) (hGs : ∀ i, i < n → (G i).size ≤ maxLen)
    (hp : MapF w mp n (fmap G (strs P) n)) (hd : MapF w md n (fmap G (deps (dpt n G P)) n)) :
    Calls Try.prog 31 #[.agg #[.map (some mp), .map (some mc), .map (some md)], .slice (some ⟨b, f, none⟩) m c] w (LcaRes w n m G P ix) := by
  have hbs := hX.lt (by omega)
  have g0 : w.cell? ⟨b, f, none⟩ = some (.string (X 0)) := hX 0 (by omega)
  have HP := hide hp
  have HD := hide hd
  have HT := hide hT
  have HU := hide hT.isUp
  obtain ⟨hx0, hx0e⟩ := hx 0 hm0
  rw [hx0e] at g0
  clear hp hd hT hx0e
  by_cases hc1 : c = 1
  · obtain rfl : m = 1 := by omega
    subst hc1
    go_enter Try.func31, Try.ntmps31
    go_wp2
    refine wp_loop_rounds 1 ?_
    rw [rounds_succ]
    go_wp2
    go_ret
    refine ⟨ix 0, hx0, rfl, fun x => ⟨fun h i hi => ?_, fun h => h 0 (by omega)⟩, below_new _ _⟩
    obtain rfl : i = 0 := by omega
    exact h
  go_enter Try.func31, Try.ntmps31
  go_wp2
  go_loopg [5, 14] (m - 1) (fun gk a i wr => ∃ k l d : Nat, gk + k = m - 1 ∧ i = .int .i64 k ∧ a = .string (G l) ∧ l < n ∧ wr = (w.alloc (.cells #[.map (some mp), .map (some mc), .map (some md)] 32)).drewN d ∧ Hid (∀ x, Anc (up n G P) x l ↔ ∀ i, i < k + 1 → Anc (up n G P) x (ix i)))
  case atStart =>
    refine ⟨0, ix 0, 0, rfl, rfl, rfl, hx0, rfl, fun x => ⟨fun h i hi => ?_, fun h => h 0 (by omega)⟩⟩
    obtain rfl : i = 0 := by omega
    exact h
  case round =>
    obtain ⟨k, l, d, hk, rfl, rfl, hl, rfl, HB⟩ := hrel
    clear g0
    by_cases hlt : k < m - 1
    · obtain ⟨hy0, hye⟩ := hx (k + 1) (by omega)
      have g1 : w.cell? ⟨b, f + 1 + k, none⟩ = some (.string (G (ix (k + 1)))) := by
        have := hX (k + 1) (by omega)
        rw [hye] at this
        rw [show f + 1 + k = f + (k + 1) by omega]; exact this
      have HA : Hid (∀ x, (Anc (up n G P) x l ∧ Anc (up n G P) x (ix (k + 1))) ↔ ∀ i, i < k + 1 + 1 → Anc (up n G P) x (ix i)) := fun x => by
        rw [HB.out x]
        constructor
        · rintro ⟨h1, h2⟩ i hi
          by_cases e : i = k + 1
          · exact e ▸ h2
          · exact h1 i (by omega)
        · exact fun h => ⟨fun i hi => h i (by omega), h (k + 1) (by omega)⟩
      clear hye HB
      obtain ⟨y0, ey⟩ : ∃ y0, ix (k + 1) = y0 := ⟨_, rfl⟩
      rw [ey] at hy0 g1 HA
      clear ey
      go_wp2
      go_loopg [7] (dpt n G P y0) (fun gk dd wr => ∃ y, gk = dpt n G P y ∧ dd = .string (G y) ∧ y < n ∧ wr = (w.alloc (.cells #[.map (some mp), .map (some mc), .map (some md)] 32)).drewN d ∧ Hid (∀ x, (Anc (up n G P) x l ∧ Anc (up n G P) x y) ↔ ∀ i, i < k + 1 + 1 → Anc (up n G P) x (ix i)))
      case atStart => exact ⟨y0, rfl, rfl, hy0, rfl, HA⟩
      case round =>
        clear HA g1 hy0
        obtain ⟨y, rfl, rfl, hy, rfl, HA⟩ := hrel
        have dy := dep_lookup ((HD.out.alloc (.cells #[.map (some mp), .map (some mc), .map (some md)] 32)).drewN d) HT.out hy (hGs y hy)
        have dl := dep_lookup ((HD.out.alloc (.cells #[.map (some mp), .map (some mc), .map (some md)] 32)).drewN d) HT.out hl (hGs l hl)
        by_cases hgt : dpt n G P l < dpt n G P y
        · obtain ⟨z, hz, e1, e2, e3⟩ := HT.out.parent hy (by omega)
          have py := par_lookup ((HP.out.alloc (.cells #[.map (some mp), .map (some mc), .map (some md)] 32)).drewN d) HT.out hy (hGs y hy)
          rw [e3] at py
          have HZ : Hid (∀ x, (Anc (up n G P) x l ∧ Anc (up n G P) x z) ↔ ∀ i, i < k + 1 + 1 → Anc (up n G P) x (ix i)) := fun x => by
            rw [← HA.out x, HU.out.anc_par hl hy hgt e1]
          have E2 := hide e2
          clear e1 e2 e3
          go_wp2
          go_roundg (dpt n G P z)
          case measure => have := E2.out; omega
          case rel => exact ⟨z, rfl, rfl, hz, rfl, HZ⟩
        · have hle : dpt n G P y ≤ dpt n G P l := by omega
          go_wp2
          clear dl hgt
          go_loopg [5] (dpt n G P l) (fun gk aa wr => ∃ l', gk = dpt n G P l' ∧ aa = .string (G l') ∧ l' < n ∧ dpt n G P y ≤ dpt n G P l' ∧ wr = (w.alloc (.cells #[.map (some mp), .map (some mc), .map (some md)] 32)).drewN d ∧ Hid (∀ x, (Anc (up n G P) x l' ∧ Anc (up n G P) x y) ↔ ∀ i, i < k + 1 + 1 → Anc (up n G P) x (ix i)))
          case atStart => exact ⟨l, rfl, rfl, hl, hle, rfl, HA⟩
          case round =>
            clear HA hle
            obtain ⟨l', rfl, rfl, hl', hle, rfl, HA⟩ := hrel
            have dl := dep_lookup ((HD.out.alloc (.cells #[.map (some mp), .map (some mc), .map (some md)] 32)).drewN d) HT.out hl' (hGs l' hl')
            by_cases hgt : dpt n G P y < dpt n G P l'
            · obtain ⟨z, hz, e1, e2, e3⟩ := HT.out.parent hl' (by omega)
              have py := par_lookup ((HP.out.alloc (.cells #[.map (some mp), .map (some mc), .map (some md)] 32)).drewN d) HT.out hl' (hGs l' hl')
              rw [e3] at py
              have HZ : Hid (∀ x, (Anc (up n G P) x z ∧ Anc (up n G P) x y) ↔ ∀ i, i < k + 1 + 1 → Anc (up n G P) x (ix i)) := fun x => by
                rw [← HA.out x, and_comm, ← HU.out.anc_par hy hl' hgt e1, and_comm]
              have E2 := hide e2
              clear e1 e2 e3
              go_wp2
              go_roundg (dpt n G P z)
              case measure => have := E2.out; omega
              case rel => exact ⟨z, rfl, rfl, hz, by have := E2.out; omega, rfl, HZ⟩
            · have heq : dpt n G P l' = dpt n G P y := by omega
              go_wp2
              clear dl dy hgt hle
              go_loopg [5, 7] (dpt n G P y) (fun gk aa dd wr => ∃ l2 y2 d, gk = dpt n G P y2 ∧ dpt n G P l2 = dpt n G P y2 ∧ aa = .string (G l2) ∧ dd = .string (G y2) ∧ l2 < n ∧ y2 < n ∧ wr = (w.alloc (.cells #[.map (some mp), .map (some mc), .map (some md)] 32)).drewN d ∧ Hid (∀ x, (Anc (up n G P) x l2 ∧ Anc (up n G P) x y2) ↔ ∀ i, i < k + 1 + 1 → Anc (up n G P) x (ix i)))
              case atStart => exact ⟨l', y, d, rfl, heq, rfl, rfl, hl', hy, rfl, HA⟩
              case round =>
                clear HA heq
                obtain ⟨l2, y2, d2, rfl, heq, rfl, rfl, hl2, hy2, rfl, HA⟩ := hrel
                by_cases hne : l2 = y2
                · subst hne
                  go_wp2
                  go_roundg (gk - 1)
                  case measure => omega
                  case rel => exact ⟨k + 1, l2, _, by omega, by go_num, rfl, hl2, rfl, fun x => by rw [← HA.out x]; simp⟩
                · have hs : ((G l2).toList == (G y2).toList) = false := seq_false.2 fun e => hne (HT.out.eq hl2 hy2 e)
                  have hd0 : dpt n G P y2 ≠ 0 := fun e => hne (HU.out.dep_root hl2 hy2 (heq.trans e) e)
                  obtain ⟨z, hz, e1, e2, e3⟩ := HT.out.parent hl2 (by omega)
                  obtain ⟨z', hz', e1', e2', e3'⟩ := HT.out.parent hy2 hd0
                  have hpl : ∀ q, (Instr.lookup 28 (.map (some mp)) (.string (G l2)) false).run Try.prog ((w.alloc (.cells #[.map (some mp), .map (some mc), .map (some md)] 32)).drewN q) = .ok (.string (G z)) ((w.alloc (.cells #[.map (some mp), .map (some mc), .map (some md)] 32)).drewN q) := fun q => by
                    rw [← e3]; exact par_lookup ((HP.out.alloc _).drewN q) HT.out hl2 (hGs l2 hl2)
                  have hpy : ∀ q, (Instr.lookup 28 (.map (some mp)) (.string (G y2)) false).run Try.prog ((w.alloc (.cells #[.map (some mp), .map (some mc), .map (some md)] 32)).drewN q) = .ok (.string (G z')) ((w.alloc (.cells #[.map (some mp), .map (some mc), .map (some md)] 32)).drewN q) := fun q => by
                    rw [← e3']; exact par_lookup ((HP.out.alloc _).drewN q) HT.out hy2 (hGs y2 hy2)
                  have HZ : Hid (∀ x, (Anc (up n G P) x z ∧ Anc (up n G P) x z') ↔ ∀ i, i < k + 1 + 1 → Anc (up n G P) x (ix i)) := fun x => by
                    rw [← HA.out x, HU.out.anc_both hl2 hy2 heq hne e1 e1']
                  have E2 := hide (And.intro e2 e2')
                  clear e1 e2 e3 e1' e2' e3' hne hd0
                  go_wp2
                  go_quiet (fail)
                  go_wp2
                  go_roundg (dpt n G P z')
                  case measure => have := E2.out; omega
                  case rel => exact ⟨z, z', _, rfl, by have := E2.out; omega, rfl, rfl, hz, hz', by rw [World.drewN_drewN], HZ⟩
    · obtain rfl : k = m - 1 := by omega
      go_wp2
      go_ret
      refine ⟨l, hl, rfl, fun x => ?_, below_drewN (below_new _ _) _⟩
      have := HB.out x
      rw [show m - 1 + 1 = m by omega] at this
      exact this
end Go.Proofs.Qxb6000409a
