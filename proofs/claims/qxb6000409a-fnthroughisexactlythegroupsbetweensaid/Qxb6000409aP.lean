import Derived.Test.Qxb6000409aO
namespace Go.Proofs.Qxb6000409a
open Go.RowKit Go.Maps

/-! ### plainly: the places between -/
/-- y lies strictly below L and is named by no destination -/
structure Tgt (n m L : Nat) (q : Nat → Int) (G X : Nat → ByteArray) (y : Nat) : Prop where
  lt : y < n
  ne : y ≠ L
  anc : Anc q L y
  no : ∀ j, j < m → X j ≠ G y
section
variable {n m L : Nat} {q : Nat → Int} {dep : Nat → Nat} {G X : Nat → ByteArray} {y : Nat}
theorem Tgt.not_up (h : Tgt n m L q G X y) (U : Up n q dep) (hL : L < n) : ¬ Anc q y L := fun ha => by
  have h1 := U.anc_dep hL ha
  have h2 := U.anc_dep h.lt h.anc
  exact h.ne (h1.2.2 (by omega))
/-- the destination is the lca itself -/
theorem full_at {k : Nat} {ix : Nat → Nat} {ys : List Nat} (U : Up n q dep) (hL : L < n) (e : ix k = L) (h : ∀ y, Tgt n m L q G X y → (∃ i, i < k ∧ Anc q y (ix i)) → y ∈ ys) :
    ∀ y, Tgt n m L q G X y → (∃ i, i < k + 1 ∧ Anc q y (ix i)) → y ∈ ys := fun y hy ⟨i, hi, ha⟩ => by
  by_cases hik : i = k
  · subst hik
    rw [e] at ha
    exact absurd ha (hy.not_up U hL)
  · exact h y hy ⟨i, by omega, ha⟩
/-- the climb has come to the lca -/
theorem full_lca {k s : Nat} {ix : Nat → Nat} {ys : List Nat} (U : Up n q dep) (hL : L < n) (e : it q (s + 1) (ix k) = L)
    (h : ∀ y, Tgt n m L q G X y → ((∃ i, i < k ∧ Anc q y (ix i)) ∨ ∃ t, t ≤ s ∧ it q t (ix k) = y) → y ∈ ys) :
    ∀ y, Tgt n m L q G X y → (∃ i, i < k + 1 ∧ Anc q y (ix i)) → y ∈ ys := fun y hy ⟨i, hi, ha⟩ => by
  by_cases hik : i = k
  · subst hik
    obtain ⟨t, ht⟩ := ha
    by_cases hts : t ≤ s
    · exact h y hy (.inr ⟨t, hts, ht⟩)
    · refine absurd ⟨t - (s + 1), ?_⟩ (hy.not_up U hL)
      rw [← e, it_add q (s + 1) _ _ (by rw [e]; omega), show s + 1 + (t - (s + 1)) = t by omega, ht]
  · exact h y hy (.inl ⟨i, by omega, ha⟩)
/-- the climb has come to its end -/
theorem full_end {k s : Nat} {ix : Nat → Nat} {ys : List Nat} (e : it q (s + 1) (ix k) = -1)
    (h : ∀ y, Tgt n m L q G X y → ((∃ i, i < k ∧ Anc q y (ix i)) ∨ ∃ t, t ≤ s ∧ it q t (ix k) = y) → y ∈ ys) :
    ∀ y, Tgt n m L q G X y → (∃ i, i < k + 1 ∧ Anc q y (ix i)) → y ∈ ys := fun y hy ⟨i, hi, ha⟩ => by
  by_cases hik : i = k
  · subst hik
    obtain ⟨t, ht⟩ := ha
    by_cases hts : t ≤ s
    · exact h y hy (.inr ⟨t, hts, ht⟩)
    · rw [it_stay e (by omega)] at ht; omega
  · exact h y hy (.inl ⟨i, by omega, ha⟩)
/-- at the climb's start: the destination itself is none -/
theorem full_start {k : Nat} {ix : Nat → Nat} {ys : List Nat} (hk : k < m) (hx : X k = G (ix k)) (h : ∀ y, Tgt n m L q G X y → (∃ i, i < k ∧ Anc q y (ix i)) → y ∈ ys) :
    ∀ y, Tgt n m L q G X y → ((∃ i, i < k ∧ Anc q y (ix i)) ∨ ∃ t, t ≤ 0 ∧ it q t (ix k) = y) → y ∈ ys := fun y hy hh => by
  rcases hh with hh | ⟨t, ht, e⟩
  · exact h y hy hh
  · obtain rfl : t = 0 := by omega
    have : ix k = y := by have : ((ix k : Nat) : Int) = y := e
                          omega
    exact absurd (this ▸ hx) (hy.no k hk)
/-- a step of the climb -/
theorem full_step {k s z : Nat} {ix : Nat → Nat} {ys ys' : List Nat} (e : it q (s + 1) (ix k) = z) (hs : ∀ y, y ∈ ys → y ∈ ys') (hz : Tgt n m L q G X z → z ∈ ys')
    (h : ∀ y, Tgt n m L q G X y → ((∃ i, i < k ∧ Anc q y (ix i)) ∨ ∃ t, t ≤ s ∧ it q t (ix k) = y) → y ∈ ys) :
    ∀ y, Tgt n m L q G X y → ((∃ i, i < k ∧ Anc q y (ix i)) ∨ ∃ t, t ≤ s + 1 ∧ it q t (ix k) = y) → y ∈ ys' := fun y hy hh => by
  rcases hh with hh | ⟨t, ht, e'⟩
  · exact hs y (h y hy (.inl hh))
  · by_cases hts : t = s + 1
    · subst hts
      have : z = y := by omega
      subst this
      exact hz hy
    · exact hs y (h y hy (.inr ⟨t, by omega, e'⟩))
/-- a place of the climb below the lca -/
theorem climb_anc {k s z : Nat} {ix : Nat → Nat} (hA : Anc q L (ix k)) (hne : ∀ t, t ≤ s → it q t (ix k) ≠ L) (e : it q (s + 1) (ix k) = z) (hzL : z ≠ L) : Anc q L z := by
  obtain ⟨t, ht⟩ := hA
  have h1 : ¬ t ≤ s := fun h => hne t h ht
  have h2 : t ≠ s + 1 := fun h => by subst h; omega
  refine ⟨t - (s + 1), ?_⟩
  rw [← e, it_add q (s + 1) _ _ (by rw [e]; omega), show s + 1 + (t - (s + 1)) = t by omega, ht]
end

/-! ### the row that grows -/
def cellsG (G : Nat → ByteArray) (ys : List Nat) : List Value := ys.map fun y => .string (G y)
structure TInv (B : Nat) (W : World) (G : Nat → ByteArray) (R : Nat → Prop) (a : Option Addr) (cp : Nat) (ys : List Nat) (wr : World) : Prop where
  below : Below B W wr
  own : wr.ownsRow B 9 1 (.slice a ys.length cp) ys.length (cellsG G ys)
  nodup : ys.Nodup
  good : ∀ y, y ∈ ys → R y
theorem TInv.row {B : Nat} {W wr : World} {G : Nat → ByteArray} {R : Nat → Prop} {a : Option Addr} {cp : Nat} {ys : List Nat} (h : TInv B W G R a cp ys wr) : SRow wr a ys.length (fun j => G (ys.getD j 0)) ∧ ys.length ≤ cp := by
  rcases h.own.2 with ⟨h1, h2⟩ | ⟨g, cap, cur, h1, _, _, h4, _⟩
  · injection h1 with h1 h3 h5
    exact ⟨.inl h2, by omega⟩
  · injection h1 with h1 h3 h5
    subst h1 h5
    refine ⟨.inr ⟨g, 0, rfl, fun i hi => ?_⟩, h4⟩
    rw [Nat.zero_add, h.own.cellAt i (by omega)]
    simp [cellsG, hi]
theorem TInv.start {W : World} {G : Nat → ByteArray} {R : Nat → Prop} : TInv W.heap.size W G R none 0 [] W := ⟨Below.refl _ _, World.ownsRow_nil _ _ _ _, List.nodup_nil, fun y h => by cases h⟩
theorem TInv.add {B : Nat} {W wr : World} {G : Nat → ByteArray} {R : Nat → Prop} {a : Option Addr} {cp : Nat} {ys : List Nat} (h : TInv B W G R a cp ys wr) (hB : B ≤ W.heap.size) (hl : ys.length ≤ 1048576) {z : Nat} (hz : z ∉ ys) (hR : R z) :
    ∃ g cap w', (Builtin.append_ #[22, 22] 22 #[.slice a ys.length cp, .slice (some ⟨wr.heap.size, 0, none⟩) 1 1]).run Try.prog (wr.alloc (.cells #[.string (G z)] 9)) = .ok (.slice (some ⟨g, 0, none⟩) (ys.length + 1) cap) w' ∧ TInv B W G R (some ⟨g, 0, none⟩) cap (ys ++ [z]) w' := by
  obtain ⟨i0, hi, hz0, hz1, hz2⟩ := info_parts info9
  have hml : (1048577 : Nat) ≤ maxLen := by unfold maxLen; omega
  have hBw := Nat.le_trans hB h.below.size
  obtain ⟨g', cap, w1, hrun, hown, hgr, hloc, hlt⟩ := run_append_lies (P := Try.prog) (wr.alloc (.cells #[.string (G z)] 9)) 22 22 B 9 i0 (.string e0) 1 16 Try.underlying22 hi hz0 hz1 hz2 (by simp [Value.cells]) (by omega)
    _ _ _ (h.own.alloc _) ⟨wr.heap.size, 0, none⟩ 1 1 [.string (G z)] rfl (fun j u hu => by
      have : j = 0 := by
        rcases j with _ | j
        · rfl
        · simp at hu
      subst this
      have e : (⟨wr.heap.size, 0, none⟩ : Addr).add 0 = ⟨wr.heap.size, 0, none⟩ := by simp [Addr.add]
      rw [e, World.cell?_alloc_at _ _ _ _ rfl]
      simpa using hu) (fun u hu => by simp at hu; subst hu; rfl) (by omega) (by omega) (by omega) (by simp; omega) _ rfl
  have hlen : (ys ++ [z]).length = ys.length + 1 := by simp
  refine ⟨g', cap, w1, hrun, ⟨(h.below.alloc hBw _).grown hgr (by simp; omega) (fun k hk => (h.own.lt k hk).1), ?_, ?_, ?_⟩⟩
  · rw [hlen]
    have : cellsG G (ys ++ [z]) = cellsG G ys ++ [.string (G z)] := by simp [cellsG]
    rw [this]; exact hown
  · rw [List.nodup_append]
    refine ⟨h.nodup, by simp, ?_⟩
    intro x hx y hy
    rw [List.mem_singleton] at hy
    subst hy
    exact fun e => hz (e ▸ hx)
  · intro y hy
    rcases List.mem_append.1 hy with hy | hy
    · exact h.good y hy
    · rw [List.mem_singleton] at hy; exact hy ▸ hR

/-- an append whose run is known -/
theorem wpList_append_eq {P : Program} {w : World} {ops : Array Oper} {rest : List Oper} {o : Oper} {a : Act} {Q : Exit → Act → World → Prop} (hgd : o.guard = none) (s x : Operand) (t : TypeId)
    (ho : o.op = .call { callee := .builtin .append, args := #[s, x], argTypes := #[t, t] }) (v u v' : Value) (w1 : World) (hs : a.eval s = v) (hx : a.eval x = u)
    (hr : (Builtin.append_ #[t, t] o.type #[v, u]).run P w = .ok v' w1) (h : wpList P ops Q rest (a.put o.dst v') w1) : wpList P ops Q (o :: rest) a w := by
  refine wpList_plain hgd fun K hK => ?_
  unfold Oper.wp execOp
  simp only [ho, resolve, invoke, builtin, Sem.run_bind, Sem.run_pure, Result.andThen_ok, List.map_toArray, List.map_cons, List.map_nil, hs, hx, hr]
  exact hK _ _ h
end Go.Proofs.Qxb6000409a
