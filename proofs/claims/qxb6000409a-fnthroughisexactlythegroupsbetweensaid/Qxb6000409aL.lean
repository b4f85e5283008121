import Derived.Test.Qxb6000409aJ
import Derived.Test.Qxb6000409aK
import Derived.Laws.CopyOwn
namespace Go.Proofs.Qxb6000409a
open Go.RowKit Go.Maps

theorem make22 (n : Nat) (hn : n ≤ 1048576) (w : World) : (Instr.makeSlice 22 (.int .i64 n) (.int .i64 n)).run Try.prog w = .ok (.slice (some ⟨w.heap.size, 0, none⟩) n n) (w.alloc (.cells (madeCells #[.string e0] n) 9)) := by
  obtain ⟨i0, hi, hz0, hz1, hz2⟩ := info_parts info9
  have h := run_make w (P := Try.prog) 22 9 i0 (.string e0) Try.underlying22 hi hz0 .i64 .i64 n n (by omega) (by omega) (by rw [hz2]; omega) (by omega)
  rw [hz1] at h
  simpa [Value.cells] using h

/-- a copy of a slice of strings into a new row -/
theorem copy22 (a : Option Addr) (n c : Nat) (x : Nat → ByteArray) (w : World) (h : SRow w a n x) :
    ∃ w2, (Builtin.copy_ #[22, 22] 3 #[.slice (some ⟨w.heap.size, 0, none⟩) n n, .slice a n c]).run Try.prog (w.alloc (.cells (madeCells #[.string e0] n) 9)) = .ok (.int .i64 n) w2 ∧
      Below w.heap.size w w2 ∧ SRow w2 (some ⟨w.heap.size, 0, none⟩) n x := by
  have hsz : (Try.prog.info? 9).map (·.size) = some 1 := by kernel_rfl
  by_cases h0 : n = 0
  · subst h0
    exact ⟨_, run_copy_none (P := Try.prog) _ 22 22 3 9 _ _ 0 0 0 c Try.underlying22 hsz rfl, below_new _ _, .inl rfl⟩
  · rcases h with e | ⟨b, f, rfl, h⟩
    · exact absurd e h0
    have hlt := h.lt (by omega)
    have hlen : (List.ofFn fun i : Fin n => Value.string (x i)).length = n := by simp
    have hg : (w.alloc (.cells (madeCells #[.string e0] n) 9)).heap[w.heap.size]? = some (.cells (madeCells #[.string e0] n) 9 (0, 0)) := Array.getElem?_push_size
    have hr := run_copy_row (P := Try.prog) (w.alloc (.cells (madeCells #[.string e0] n) 9)) 22 22 3 9 w.heap.size 0 n n ⟨b, f, none⟩ n c (madeCells #[.string e0] n) 9 (List.ofFn fun i : Fin n => Value.string (x i)) Try.underlying22 hsz hg
      (by rw [hlen]; simp) (fun j v hv => by
        rw [List.getElem?_ofFn] at hv
        split at hv
        · rename_i hj
          cases hv
          have e : (⟨b, f, none⟩ : Addr).add j = ⟨b, f + j, none⟩ := by simp [Addr.add]
          rw [e, World.cell?_alloc_past _ _ _ hlt]
          exact h j hj
        · cases hv) (by rw [hlen]; simp [madeCells]) (fun v hv => by
        rw [List.mem_ofFn] at hv
        obtain ⟨i, rfl⟩ := hv
        rfl)
    rw [hlen] at hr
    refine ⟨_, hr, below_setRow (below_new _ _) (Nat.le_refl _) _, .inr ⟨_, _, rfl, fun i hi => ?_⟩⟩
    have hs := setRow_heap _ _ _ (((madeCells #[Value.string e0] n).toList.take 0 ++ (List.ofFn fun i : Fin n => Value.string (x i)) ++ (madeCells #[Value.string e0] n).toList.drop (0 + n)).toArray) 9 (0, 0) hg
    rw [cell_of_row _ _ _ _ _ _ hs]
    simp only [List.take_zero, List.nil_append]
    rw [List.getElem?_toArray, List.getElem?_append_left (by rw [hlen]; omega), List.getElem?_ofFn, dif_pos (by omega)]
    simp

/-! ### ZZB1Lca -/
theorem zzlca (mp mc md b f n m : Nat) (G P X : Nat → ByteArray) (ix : Nat → Nat) (w : World) (hm : m ≤ 256) (hm0 : 0 < m) (hX : SAt w b f m X) (hT : Good n G P)
    (hx : ∀ i, i < m → ix i < n ∧ X i = G (ix i)) (hGs : ∀ i, i < n → (G i).size ≤ maxLen)
    (hp : MapF w mp n (fmap G (strs P) n)) (hd : MapF w md n (fmap G (deps (dpt n G P)) n)) :
    Calls Try.prog 20 #[.agg #[.map (some mp), .map (some mc), .map (some md)], .slice (some ⟨b, f, none⟩) m m] w (LcaRes w n m G P ix) := by
  have hbs := hX.lt (by omega)
  have HP := hide hp
  have HD := hide hd
  have HT := hide hT
  have HX := hide hX
  clear hp hd hT hX
  go_enter Try.func20, Try.ntmps20
  go_wp2_with fail
  refine (lca_some mp mc md b f n m m G P X ix _ hm hm0 (Nat.le_refl _) (HX.out.below (below_new _ _)) HT.out hx hGs (HP.out.alloc _) (HD.out.alloc _)).mono ?_
  rintro e w' ⟨l, hl, rfl, hA, hb⟩
  have HA := hide hA
  clear hA
  go_wp2
  go_ret
  exact ⟨l, hl, rfl, HA.out, (below_new _ _).trans (hb.mono (by simp))⟩
end Go.Proofs.Qxb6000409a
