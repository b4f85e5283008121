import Derived.Test.Qxb6000409aF
import Derived.Deep.RegionHeld3
import Derived.Deep.DeepCutAuto
namespace Go.Proofs.Qxb6000409a
open Go.RowKit Go.Maps
theorem info22 : (Try.prog.info? 22).map (fun i => (i.zero, i.size, i.bytes)) = some (some (.slice none 0 0), 1, 24) := by kernel_rfl
theorem info9 : (Try.prog.info? 9).map (fun i => (i.zero, i.size, i.bytes)) = some (some (.string e0), 1, 16) := by kernel_rfl
theorem zero22 (w : World) : (zeroValue 22).run Try.prog w = .ok (.slice none 0 0) w := by kernel_rfl
theorem zero9 (w : World) : (zeroValue 9).run Try.prog w = .ok (.string e0) w := by kernel_rfl
theorem zero3 (w : World) : (zeroValue 3).run Try.prog w = .ok (.int .i64 0) w := by kernel_rfl

/-- a map filled round by round -/
def fmap (G : Nat → ByteArray) (v : Nat → Value) : Nat → ByteArray → Option Value
  | 0, _ => none
  | k + 1, x => if x = G k then some (v k) else fmap G v k x
theorem fmap_at {G : Nat → ByteArray} {v : Nat → Value} : ∀ {k i : Nat}, (∀ i, i < k → ∀ j, j < i → G j ≠ G i) → i < k → fmap G v k (G i) = some (v i)
  | 0, _, _, h => absurd h (by omega)
  | k + 1, i, hd, hi => by
    by_cases e : i = k
    · subst e; simp [fmap]
    · rw [fmap, if_neg (hd k (by omega) i (by omega))]
      exact fmap_at (fun i hi => hd i (by omega)) (by omega)
theorem MapF.funext {w : World} {b n : Nat} {f g : ByteArray → Option Value} (h : MapF w b n f) (e : ∀ x, f x = g x) : MapF w b n g := by
  have : f = g := _root_.funext e
  rwa [← this]

/-- what lies below base, but for block b, stands -/
structure Kp (base b : Nat) (w w' : World) : Prop where
  os : w'.os = w.os
  tape : w'.tape = w.tape
  output : w'.output = w.output
  size : w.heap.size ≤ w'.heap.size
  block : ∀ j, j < base → j ≠ b → w'.heap[j]? = w.heap[j]?
section
variable {base b : Nat} {w w' w'' : World}
theorem Kp.trans (h : Kp base b w w') (k : Kp base b w' w'') : Kp base b w w'' :=
  ⟨k.os.trans h.os, k.tape.trans h.tape, k.output.trans h.output, Nat.le_trans h.size k.size, fun i hi hj => (k.block i hi hj).trans (h.block i hi hj)⟩
theorem Kp.drew (w : World) : Kp base b w w.drew := ⟨rfl, rfl, rfl, Nat.le_refl _, fun _ _ _ => rfl⟩
theorem Kp.of_alloc (h : base ≤ w.heap.size) (o : Obj) : Kp base b w (w.alloc o) :=
  ⟨rfl, rfl, rfl, by simp, fun j hj _ => Below.heap_alloc w o j (by omega)⟩
theorem Kp.of_grown {row : Option Nat} (h : w.grownBy w' row) (hb : base ≤ w.heap.size) (hr : ∀ j, row = some j → base ≤ j ∨ j = b) : Kp base b w w' :=
  ⟨h.os, h.tape, h.output, h.size, fun j hj hne => h.block j (by omega) (fun e => by have := hr j e.symm; omega)⟩
theorem Kp.cell (h : Kp base b w w') {j : Nat} (o : Nat) (hj : j < base) (hne : j ≠ b) : w'.cell? ⟨j, o, none⟩ = w.cell? ⟨j, o, none⟩ := World.cell?_of_block (h.block j hj hne)
theorem Kp.below {B : Nat} (h : Kp base b w w') (hB : B ≤ b) (hb : b < base) : Below B w w' := ⟨h.os, h.tape, h.output, h.size, fun j hj => h.block j (by omega) (by omega)⟩
theorem Kp.mapF (h : Kp base b w w') {j n : Nat} {f : ByteArray → Option Value} (m : MapF w j n f) (hj : j < base) (hne : j ≠ b) : MapF w' j n f := m.of_block (h.block j hj hne)
end

/-- the children's map: each element a row of the call's own, apart from the others -/
structure ChF (w : World) (b k base : Nat) (f : ByteArray → Option Value) : Prop where
  map : MapF w b k f
  row : ∀ s v, f s = some v → ∃ m xs, m ≤ k ∧ w.ownsRow base 9 1 v m xs ∧ v.ownBlock ≠ none
  apart : ∀ s t v u, s ≠ t → f s = some v → f t = some u → v.ownBlock ≠ u.ownBlock
theorem ChF.of_blocks {w w' : World} {b k base : Nat} {f : ByteArray → Option Value} (h : ChF w b k base f) (hb : w'.heap[b]? = w.heap[b]?) (hg : ∀ j, base ≤ j → j < w.heap.size → w'.heap[j]? = w.heap[j]?) : ChF w' b k base f where
  map := h.map.of_block hb
  row := fun s v hv => by
    obtain ⟨m, xs, hm, ho, hn⟩ := h.row s v hv
    refine ⟨m, xs, hm, ?_, hn⟩
    refine ⟨ho.1, ?_⟩
    rcases ho.2 with h1 | ⟨g, cap, cur, h1, h2, h3, h4⟩
    · exact .inl h1
    · refine .inr ⟨g, cap, cur, h1, h2, ?_, h4⟩
      rw [hg g h2 ?_]
      · exact h3
      · rcases Nat.lt_or_ge g w.heap.size with hlt | hge
        · exact hlt
        · rw [Array.getElem?_eq_none hge] at h3; cases h3
  apart := h.apart
theorem ChF.drew {w : World} {b k base : Nat} {f : ByteArray → Option Value} (h : ChF w b k base f) : ChF w.drew b k base f := h.of_blocks rfl (fun _ _ _ => rfl)

theorem child_step {W : World} {b k base : Nat} {f : ByteArray → Option Value} (h : ChF W b k base f) (hb : b < base) (hbase : base ≤ W.heap.size) (hk : k ≤ 256) {s g : ByteArray} (hs : s.size ≤ maxLen) :
    ∃ v v' w1 w2, (Instr.lookup 29 (.map (some b)) (.string s) false).run Try.prog W = .ok v W ∧
      (Instr.lookup 29 (.map (some b)) (.string s) false).run Try.prog (W.alloc (.cells #[.string g] 9)) = .ok v (W.alloc (.cells #[.string g] 9)) ∧
      (Builtin.append_ #[22, 22] 22 #[v, .slice (some ⟨W.heap.size, 0, none⟩) 1 1]).run Try.prog (W.alloc (.cells #[.string g] 9)) = .ok v' w1 ∧
      (Instr.mapUpdate 29 (.map (some b)) (.string s) v').run Try.prog w1 = .ok () w2 ∧
      Kp base b W w1 ∧ Kp base b W w2 ∧ ChF w2 b (k + 1) base (fun x => if x = s then some v' else f x) := by
  obtain ⟨v, hv⟩ : ∃ v, (f s).getD (.slice none 0 0) = v := ⟨_, rfl⟩
  have hrow : ∃ m xs, m ≤ k ∧ W.ownsRow base 9 1 v m xs := by
    cases hf : f s with
    | none => rw [hf] at hv; exact ⟨0, [], Nat.zero_le _, by rw [← hv]; exact World.ownsRow_nil _ _ _ _⟩
    | some u =>
      rw [hf] at hv
      obtain ⟨m, xs, hm, ho, _⟩ := h.row s u hf
      exact ⟨m, xs, hm, by rw [← hv]; exact ho⟩
  obtain ⟨m, xs, hm, ho⟩ := hrow
  obtain ⟨i0, hi, hz0, hz1, hz2⟩ := info_parts info9
  have hml : (1048576 : Nat) ≤ maxLen := by unfold maxLen; omega
  obtain ⟨g', cap, w1, hrun, hown, hgr, hloc, hlt⟩ := run_append_lies (P := Try.prog) (W.alloc (.cells #[.string g] 9)) 22 22 base 9 i0 (.string e0) 1 16 Try.underlying22 hi hz0 hz1 hz2 (by simp [Value.cells]) (by omega)
    v m xs (ho.alloc _) ⟨W.heap.size, 0, none⟩ 1 1 [.string g] rfl (fun j u hu => by
      have : j = 0 := by
        rcases j with _ | j
        · rfl
        · simp at hu
      subst this
      have e : (⟨W.heap.size, 0, none⟩ : Addr).add 0 = ⟨W.heap.size, 0, none⟩ := by simp [Addr.add]
      rw [e, World.cell?_alloc_at _ _ _ _ rfl]
      simpa using hu) (fun u hu => by simp at hu; subst hu; rfl) (by omega) (by omega) (by omega) (by simp; omega) _ rfl
  have hgb : base ≤ g' := by
    rcases hloc with h1 | h1
    · exact (ho.lt g' h1).1
    · rw [h1]; simp; omega
  have k1 : Kp base b W w1 := (Kp.of_alloc hbase _).trans (Kp.of_grown hgr (by simp; omega) (fun j hj => .inl (ho.lt j hj).1))
  have hm1 : MapF w1 b k f := (h.map.alloc _).grown hgr (fun e => by have := (ho.lt b e.symm).1; omega)
  obtain ⟨w2, hup, hm2, hg2⟩ := hm1.update Try.underlying29 (by omega) hs (.slice (some ⟨g', 0, none⟩) (m + 1) cap)
  have k2 : Kp base b W w2 := k1.trans (Kp.of_grown hg2 (Nat.le_trans hbase k1.size) (fun j hj => .inr (by cases hj; rfl)))
  refine ⟨v, _, w1, w2, by rw [h.map.lookup Try.underlying29 (zero22 _) hs, hv], by rw [(h.map.alloc _).lookup Try.underlying29 (zero22 _) hs, hv], hrun, hup, k1, k2, ⟨hm2, ?_, ?_⟩⟩
  · intro x u hu
    by_cases e : x = s
    · simp only [e, if_true] at hu
      cases hu
      exact ⟨m + 1, _, by omega, hown.kept hg2 (.inr (by simp [Value.ownBlock]; omega)), by simp [Value.ownBlock]⟩
    · simp only [e, if_false] at hu
      obtain ⟨m', xs', hm', ho', hn'⟩ := h.row x u hu
      refine ⟨m', xs', by omega, ((ho'.alloc _).kept hgr (.inr ?_)).kept hg2 (.inr ?_), hn'⟩
      · cases hf : f s with
        | none => rw [hf] at hv; rw [← hv]; exact hn'
        | some v0 =>
          rw [hf] at hv
          have := h.apart x s u v0 e hu hf
          rw [← hv]; exact this
      · intro e2
        have := (ho'.lt b e2).1
        omega
  · have key : ∀ x u, x ≠ s → f x = some u → u.ownBlock ≠ some g' := by
      intro x u hx hu e2
      obtain ⟨m', xs', hm', ho', hn'⟩ := h.row x u hu
      rcases hloc with h1 | h1
      · cases hf : f s with
        | none => rw [hf] at hv; rw [← hv] at h1; cases h1
        | some v0 =>
          rw [hf] at hv
          have := h.apart x s u v0 hx hu hf
          rw [← hv] at h1
          exact this (e2.trans h1.symm)
      · have := (ho'.lt g' e2).2
        rw [h1] at this; simp at this; omega
    intro x y u u' hxy hu hu'
    by_cases ex : x = s
    · simp only [ex, if_true] at hu
      cases hu
      rw [if_neg (fun e => hxy (by rw [ex, e]))] at hu'
      exact fun e => key y u' (fun e => hxy (by rw [ex, e])) hu' e.symm
    · simp only [ex, if_false] at hu
      by_cases ey : y = s
      · simp only [ey, if_true] at hu'
        cases hu'
        exact key x u ex hu
      · simp only [ey, if_false] at hu'
        exact h.apart x y u u' hxy hu hu'
end Go.Proofs.Qxb6000409a
