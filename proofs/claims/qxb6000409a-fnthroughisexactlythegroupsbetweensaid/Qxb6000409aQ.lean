import Derived.Test.Qxb6000409aP
namespace Go.Proofs.Qxb6000409a
open Go.RowKit Go.Maps

/-- what the loops of Through read -/
structure TEnv (p q b f n m c mp : Nat) (G P X : Nat → ByteArray) (W : World) : Prop where
  c0 : W.cell? ⟨p, 0, none⟩ = some (.map (some mp))
  c2 : W.cell? ⟨q, 2, none⟩ = some (.slice (some ⟨b, f, none⟩) m c)
  row : SAt W b f m X
  par : MapF W mp n (fmap G (strs P) n)
theorem TEnv.below {p q b f n m c mp : Nat} {G P X : Nat → ByteArray} {W W' : World} (h : TEnv p q b f n m c mp G P X W) (hb : Below W.heap.size W W') : TEnv p q b f n m c mp G P X W' :=
  ⟨(hb.cell (p := ⟨p, 0, none⟩) (lt_of_cell h.c0)).trans h.c0, (hb.cell (p := ⟨q, 2, none⟩) (lt_of_cell h.c2)).trans h.c2, h.row.below hb, h.par.below hb h.par.lt⟩

theorem getD_at {ys : List Nat} {j : Nat} (hj : j < ys.length) : ys.getD j 0 = ys[j] := by simp [hj]
/-- the places that Through may name -/
def Ins (n m L : Nat) (q : Nat → Int) (G X : Nat → ByteArray) (ix : Nat → Nat) (y : Nat) : Prop := Tgt n m L q G X y ∧ ∃ i, i < m ∧ Anc q y (ix i)
/-- what Through gives back -/
def ThrRes (w : World) (n m : Nat) (G P X : Nat → ByteArray) (ix : Nat → Nat) (e : Ending) (w' : World) : Prop :=
  ∃ L a cp ys, L < n ∧ (∀ x, Anc (up n G P) x L ↔ ∀ i, i < m → Anc (up n G P) x (ix i)) ∧ e = .returned (.slice a (List.length ys) cp) ∧ Below w.heap.size w w' ∧
    SRow w' a ys.length (fun j => G (ys.getD j 0)) ∧ ys.length ≤ cp ∧ ys.length ≤ 131072 ∧ ys.Nodup ∧ (∀ y, y ∈ ys → Ins n m L (up n G P) G X ix y) ∧ (∀ y, Ins n m L (up n G P) G X ix y → y ∈ ys)

set_option maxRecDepth 100000 in
set_option maxHeartbeats 3200000 in
theorem through_some (mp mc md b f n m c : Nat) (G P X : Nat → ByteArray) (ix : Nat → Nat) (w : World) (hn : n ≤ 256) (hm : m ≤ 256) (hm0 : 0 < m) (hc : m ≤ c) (hX : SAt w b f m X) (hT : Good n G P)
    (hx : ∀ i, i < m → ix i < n ∧ X i = G (ix i)) (hGs : ∀ i, i < n → (G i).size ≤ maxLen)
    (hp : MapF w mp n (fmap G (strs P) n)) (hd : MapF w md n (fmap G (deps (dpt n G P)) n)) :
    Calls Try.prog 26 #[.agg #[.map (some mp), .map (some mc), .map (some md)], .agg #[.string ⟨#[]⟩, .bool false, .slice (some ⟨b, f, none⟩) m c, .slice none 0 0]] w (ThrRes w n m G P X ix) := by
  have hbs := hX.lt (by omega)
  have HP := hide hp
  have HD := hide hd
  have HT := hide hT
  have HU := hide hT.isUp
  have HX := hide hX
  have Hx := hide hx
  clear hp hd hT hX hx
  go_enter Try.func26, Try.ntmps26
  go_wp2_with fail
  refine (lca_some mp mc md b f n m c G P X ix _ hm hm0 hc (HX.out.below ((below_new _ _).trans ((below_new _ _).mono (by simp)))) HT.out Hx.out hGs ((HP.out.alloc _).alloc _) ((HD.out.alloc _).alloc _)).mono ?_
  rintro e W ⟨L, hL, rfl, hA, hb⟩
  have HB := hide (((below_new _ _).trans ((below_new _ _).mono (by simp))).trans (hb.mono (by simp; omega)) : Below w.heap.size w W)
  have HE : Hid (TEnv w.heap.size (w.heap.size + 1) b f n m c mp G P X W) := by
    refine TEnv.below (W := (w.alloc (.cells #[.map (some mp), .map (some mc), .map (some md)] 32)).alloc (.cells #[.string ⟨#[]⟩, .bool false, .slice (some ⟨b, f, none⟩) m c, .slice none 0 0] 46)) ⟨?_, ?_, HX.out.below ((below_new _ _).trans ((below_new _ _).mono (by simp))), (HP.out.alloc _).alloc _⟩ hb
    · rw [World.cell?_alloc_past _ _ _ (by simp), World.cell?_alloc_at _ _ _ _ rfl]; rfl
    · rw [World.cell?_alloc_at _ _ _ _ (by simp)]; rfl
  have HA := hide hA
  have y2 := HE.out.c2
  clear hA hb HP HD HX
  go_wp2
  go_loopg [6, 17] m (fun gk v i wr => ∃ (k : Nat) (a : Option Addr) (cp : Nat) (ys : List Nat), gk + k = m ∧ i = .int .i64 k ∧ v = .slice a ys.length cp ∧ ys.length ≤ 257 * k ∧ Hid (TInv W.heap.size W G (Ins n m L (up n G P) G X ix) a cp ys wr) ∧ Hid (∀ y, Tgt n m L (up n G P) G X y → (∃ i, i < k ∧ Anc (up n G P) y (ix i)) → y ∈ ys))
  case atStart => exact ⟨0, none, 0, [], rfl, rfl, rfl, Nat.zero_le _, TInv.start, fun y _ ⟨i, hi, _⟩ => absurd hi (by omega)⟩
  case round =>
    clear y2
    obtain ⟨k, a, cp, ys, hk, rfl, rfl, hlen, HI, HF⟩ := hrel
    by_cases hlt : k < m
    · obtain ⟨hxk, hxe⟩ := Hx.out k hlt
      have hE := HE.out.below HI.out.below
      have g0 := hE.row k hlt
      rw [hxe] at g0
      have y0 := hE.c0
      have pl := par_lookup hE.par HT.out hxk (hGs _ hxk)
      have e1 : P (ix k) = nm G (it (up n G P) 1 (ix k)) := by
        rw [it, if_neg (by omega), Int.toNat_natCast]; exact HT.out.nm hxk
      rw [e1] at pl
      have HK : Hid (X k = G (ix k)) := hxe
      clear hE e1 hxe
      by_cases hdl : ix k = L
      · have t1 : ((G (ix k)).toList == (G L).toList) = true := by rw [hdl]; simp
        have HF' := hide (full_at HU.out hL hdl HF.out)
        clear hdl
        go_wp2
        refine wp_loop_rounds 1 ?_
        rw [rounds_succ]
        go_wp2
        go_roundg (gk - 1)
        case measure => omega
        case rel => exact ⟨k + 1, a, cp, ys, by omega, by go_num, rfl, by omega, HI, HF'⟩
      · have t1 : ((G (ix k)).toList == (G L).toList) = false := seq_false.2 fun e => hdl (HT.out.eq hxk hL e)
        have HQ : Hid (∀ t, t ≤ 0 → it (up n G P) t (ix k) ≠ L) := fun t ht => by
          obtain rfl : t = 0 := by omega
          show ((ix k : Nat) : Int) ≠ L
          omega
        have HF' := hide (full_start hlt HK.out HF.out)
        clear hdl HF
        go_wp2
        go_loopg [6, 9] (dpt n G P (ix k)) (fun gk v g wr => ∃ (s : Nat) (a : Option Addr) (cp : Nat) (ys : List Nat), gk + s = dpt n G P (ix k) ∧ v = .slice a ys.length cp ∧ g = .string (nm G (it (up n G P) (s + 1) (ix k))) ∧ ys.length ≤ 257 * k + s ∧ Hid (TInv W.heap.size W G (Ins n m L (up n G P) G X ix) a cp ys wr) ∧ Hid (∀ y, Tgt n m L (up n G P) G X y → ((∃ i, i < k ∧ Anc (up n G P) y (ix i)) ∨ ∃ t, t ≤ s ∧ it (up n G P) t (ix k) = y) → y ∈ ys) ∧ Hid (∀ t, t ≤ s → it (up n G P) t (ix k) ≠ L))
        case atStart => exact ⟨0, a, cp, ys, rfl, rfl, rfl, by omega, HI, HF', HQ⟩
        case round =>
          clear HI HF' HQ pl y0 g0 hlen
          obtain ⟨s, a, cp, ys, hs, rfl, rfl, hlen, HI, HF, HQ⟩ := hrel
          have hlim := HU.out.lim _ hxk
          by_cases hsd : s < dpt n G P (ix k)
          · obtain ⟨z, hz, ez, _⟩ := HU.out.it_in (s + 1) _ hxk hsd
            rw [ez, nm_nat]
            by_cases hzl : z = L
            · have t2 : ((G z).toList == (G L).toList) = true := by rw [hzl]; simp
              have HF' := hide (full_lca HU.out hL (by rw [ez, hzl]) HF.out)
              clear hzl ez
              go_wp2
              go_roundg (m - (k + 1))
              case measure => omega
              case rel => exact ⟨k + 1, a, cp, ys, by omega, by go_num, rfl, by omega, HI, HF'⟩
            · have t2 : ((G z).toList == (G L).toList) = false := seq_false.2 fun e => hzl (HT.out.eq hz hL e)
              have t3 : (G z).toList.isEmpty = false := HT.out.ne z hz
              have hE := HE.out.below HI.out.below
              have HR := hide hE.row
              have y2 := hE.c2
              have y0 := hE.c0
              have E2 : Hid (P z = nm G (it (up n G P) (s + 1 + 1) (ix k))) := by
                show _ = _
                rw [it_succ, ez, if_neg (by omega), Int.toNat_natCast]; exact HT.out.nm hz
              have pz := par_lookup hE.par HT.out hz (hGs z hz)
              have HQ' : Hid (∀ t, t ≤ s + 1 → it (up n G P) t (ix k) ≠ L) := fun t ht => by
                by_cases e : t = s + 1
                · subst e; rw [ez]; omega
                · exact HQ.out t (by omega)
              have HZ : Hid (z ≠ L) := hzl
              have EZ := hide ez
              clear hE ez hzl
              go_wp2_with fail
              refine (contains_any _ m _ X (G z) _ (by omega) (.inr ⟨b, f, rfl, HR.out⟩)).mono ?_
              rintro e wr ⟨rfl, rfl⟩
              rcases Bool.eq_false_or_eq_true (inl m X (G z)) with c1 | c1
              · have HF' := hide (full_step EZ.out (fun _ h => h) (fun hT => by
                  obtain ⟨j, hj, e⟩ := inl_iff.1 c1
                  exact absurd e (hT.no j hj)) HF.out)
                go_wp2
                go_roundg (gk - 1)
                case measure => omega
                case rel => exact ⟨s + 1, a, cp, ys, by omega, rfl, by rw [E2.out], by omega, HI, HF', HQ'⟩
              · have HC1 := hide (inl_false.1 c1)
                obtain ⟨Y, hY⟩ : ∃ Y : Nat → ByteArray, Y = fun j => G (ys.getD j 0) := ⟨_, rfl⟩
                have HY := hide HI.out.row.1
                rw [← hY] at HY
                have HY2 : Hid (∀ j, Y j = G (ys.getD j 0)) := fun j => by rw [hY]
                clear hY
                go_wp2_with fail
                refine (contains_any _ ys.length _ Y (G z) _ (by omega) HY.out).mono ?_
                rintro e wr ⟨rfl, rfl⟩
                rcases Bool.eq_false_or_eq_true (inl ys.length Y (G z)) with c2 | c2
                · have HF' := hide (full_step EZ.out (fun _ h => h) (fun _ => by
                    obtain ⟨j, hj, e⟩ := inl_iff.1 c2
                    have hm : ys.getD j 0 ∈ ys := by rw [getD_at hj]; exact List.getElem_mem hj
                    rw [HY2.out] at e
                    have := HT.out.eq (HI.out.good _ hm).1.lt hz e
                    exact this ▸ hm) HF.out)
                  go_wp2
                  go_roundg (gk - 1)
                  case measure => omega
                  case rel => exact ⟨s + 1, a, cp, ys, by omega, rfl, by rw [E2.out], by omega, HI, HF', HQ'⟩
                · have hnz : z ∉ ys := fun hz' => by
                    obtain ⟨j, hj, e⟩ := List.mem_iff_getElem.1 hz'
                    refine inl_false.1 c2 j hj ?_
                    rw [HY2.out, getD_at hj, e]
                  have hIz : Ins n m L (up n G P) G X ix z := ⟨⟨hz, HZ.out, climb_anc ((HA.out L).1 (.refl _ _) k hlt) HQ.out EZ.out HZ.out, HC1.out⟩, k, hlt, s + 1, EZ.out⟩
                  obtain ⟨g', cap, w', hr, hI'⟩ := HI.out.add (Nat.le_refl _) (by omega) hnz hIz
                  have hE' := HE.out.below hI'.below
                  have y0' := hE'.c0
                  have pz' := par_lookup hE'.par HT.out hz (hGs z hz)
                  have HF' := hide (full_step (ys' := ys ++ [z]) EZ.out (fun _ h => List.mem_append_left _ h) (fun _ => List.mem_append_right _ (List.mem_singleton.2 rfl)) HF.out)
                  have HI' := hide hI'
                  clear hE' hI' hnz hIz HI HF y0 pz
                  go_wp2_with (at_builtin; refine wpList_append_eq rfl (.tmp 52) (.tmp 54) 22 rfl _ _ _ w' (by rfl) (by rfl) hr ?_)
                  go_roundg (gk - 1)
                  case measure => omega
                  case rel => exact ⟨s + 1, _, cap, ys ++ [z], by omega, by simp, by rw [E2.out], by simp; omega, HI', HF', HQ'⟩
          · obtain rfl : s = dpt n G P (ix k) := by omega
            have ez := HU.out.it_end _ _ hxk (Nat.lt_succ_self (dpt n G P (ix k)))
            have HF' := hide (full_end ez HF.out)
            rw [ez, nm_root]
            have t2 : (e0.toList == (G L).toList) = false := seq_false.2 fun e => emp_false.1 (HT.out.ne L hL) e.symm
            have t3 : e0.toList.isEmpty = true := by rw [e0_list]; rfl
            clear ez
            go_wp2
            go_roundg (m - (k + 1))
            case measure => omega
            case rel => exact ⟨k + 1, a, cp, ys, by omega, by go_num, rfl, by omega, HI, HF'⟩
    · obtain rfl : k = m := by omega
      go_wp2
      go_ret
      exact ⟨L, a, cp, ys, hL, HA.out, rfl, HB.out.trans (HI.out.below.mono HB.out.size), HI.out.row.1, HI.out.row.2, by omega, HI.out.nodup, HI.out.good, fun y hy => HF.out y hy.1 hy.2⟩
end Go.Proofs.Qxb6000409a
