import Derived.Test.Qxb6600057aE
namespace Go.Proofs.Qxb6600057a
open Go.RowKit

/-! ### a row that grows -/
structure Gr (B : Nat) (W : World) (y : Nat → ByteArray) (a : Option Addr) (m cp : Nat) (wr : World) : Prop where
  below : Below B W wr
  own : wr.ownsRow B 9 1 (.slice a m cp) m (scells y m)
theorem Gr.row {B : Nat} {W wr : World} {y : Nat → ByteArray} {a : Option Addr} {m cp : Nat} (h : Gr B W y a m cp wr) : SRow wr a m y ∧ m ≤ cp := by
  rcases h.own.2 with ⟨h1, h2⟩ | ⟨g, cap, cur, h1, _, _, h4, _⟩
  · injection h1 with h1 h3 h5
    exact ⟨.inl h2, by omega⟩
  · injection h1 with h1 h3 h5
    subst h1 h5
    refine ⟨.inr ⟨g, 0, rfl, fun i hi => ?_⟩, h4⟩
    rw [Nat.zero_add, h.own.cellAt i (by omega), scells_get y hi]
theorem Gr.start (W : World) (y : Nat → ByteArray) (n : Nat) (hn : n ≤ 1048577) :
    (Instr.makeSlice 22 (.int .i64 0) (.int .i64 n)).run Try.prog W = .ok (.slice (some ⟨W.heap.size, 0, none⟩) 0 n) (W.alloc (.cells (madeCells #[.string e0] n) 9)) ∧
      Gr W.heap.size W y (some ⟨W.heap.size, 0, none⟩) 0 n (W.alloc (.cells (madeCells #[.string e0] n) 9)) := by
  obtain ⟨i0, hi, hz0, hz1, hz2⟩ := info_parts info9
  have h := run_make W (P := Try.prog) 22 9 i0 (.string e0) Try.underlying22 hi hz0 .i64 .i64 0 n (by omega) (by omega) (by rw [hz2]; omega) (by omega)
  rw [hz1] at h
  refine ⟨by simpa [Value.cells] using h, below_new _ _, ?_⟩
  exact World.ownsRow_made W _ n (Nat.le_refl _) (by unfold maxLen; omega) (by simp [madeCells])
theorem scells_succ (y : Nat → ByteArray) (m : Nat) : scells y (m + 1) = scells y m ++ [.string (y m)] := by simp [scells, List.range_succ]
theorem Gr.add {B : Nat} {W wr : World} {y : Nat → ByteArray} {a : Option Addr} {m cp : Nat} (h : Gr B W y a m cp wr) (hB : B ≤ W.heap.size) (hl : m ≤ 1048576) {z : ByteArray} (hz : y m = z) :
    ∃ g cap w', (Builtin.append_ #[22, 22] 22 #[.slice a m cp, .slice (some ⟨wr.heap.size, 0, none⟩) 1 1]).run Try.prog (wr.alloc (.cells #[.string z] 9)) = .ok (.slice (some ⟨g, 0, none⟩) (m + 1) cap) w' ∧ Gr B W y (some ⟨g, 0, none⟩) (m + 1) cap w' := by
  subst hz
  obtain ⟨i0, hi, hz0, hz1, hz2⟩ := info_parts info9
  have hml : (1048577 : Nat) ≤ maxLen := by unfold maxLen; omega
  have hBw := Nat.le_trans hB h.below.size
  obtain ⟨g', cap, w1, hrun, hown, hgr, hloc, hlt⟩ := run_append_lies (P := Try.prog) (wr.alloc (.cells #[.string (y m)] 9)) 22 22 B 9 i0 (.string e0) 1 16 Try.underlying22 hi hz0 hz1 hz2 (by simp [Value.cells]) (by omega)
    _ _ _ (h.own.alloc _) ⟨wr.heap.size, 0, none⟩ 1 1 [.string (y m)] rfl (fun j u hu => by
      have : j = 0 := by
        rcases j with _ | j
        · rfl
        · simp at hu
      subst this
      have e : (⟨wr.heap.size, 0, none⟩ : Addr).add 0 = ⟨wr.heap.size, 0, none⟩ := by simp [Addr.add]
      rw [e, World.cell?_alloc_at _ _ _ _ rfl]
      simpa using hu) (fun u hu => by simp at hu; subst hu; rfl) (by omega) (by omega) (by omega) (by simp; omega) _ rfl
  refine ⟨g', cap, w1, hrun, ⟨(h.below.alloc hBw _).grown hgr (by simp; omega) (fun k hk => (h.own.lt k hk).1), ?_⟩⟩
  rw [scells_succ]; exact hown

/-- an append whose run is known -/
theorem wpList_append_eq {P : Program} {w : World} {ops : Array Oper} {rest : List Oper} {o : Oper} {a : Act} {Q : Exit → Act → World → Prop} (hgd : o.guard = none) (s x : Operand) (t : TypeId)
    (ho : o.op = .call { callee := .builtin .append, args := #[s, x], argTypes := #[t, t] }) (v u v' : Value) (w1 : World) (hs : a.eval s = v) (hx : a.eval x = u)
    (hr : (Builtin.append_ #[t, t] o.type #[v, u]).run P w = .ok v' w1) (h : wpList P ops Q rest (a.put o.dst v') w1) : wpList P ops Q (o :: rest) a w := by
  refine wpList_plain hgd fun K hK => ?_
  unfold Oper.wp execOp
  simp only [ho, resolve, invoke, builtin, Sem.run_bind, Sem.run_pure, Result.andThen_ok, List.map_toArray, List.map_cons, List.map_nil, hs, hx, hr]
  exact hK _ _ h
theorem step_append_eq {P : Program} {w : World} {ops : Array Oper} {o : Oper} {a : Act} {Q : Exit → Act → World → Prop} {K : Act → World → Prop} {E : Prop} (hgd : o.guard = none) (s x : Operand) (t : TypeId)
    (ho : o.op = .call { callee := .builtin .append, args := #[s, x], argTypes := #[t, t] }) (v u v' : Value) (w1 : World) (hs : a.eval s = v) (hx : a.eval x = u)
    (hr : (Builtin.append_ #[t, t] o.type #[v, u]).run P w = .ok v' w1) (h : K (a.put o.dst v') w1) :
    if Region.wanted o (yielded ops a.tmps) = true then Oper.wp P o a w K Q else E := by
  have hw : Region.wanted o (yielded ops a.tmps) = true := by simp [Region.wanted, hgd]
  rw [if_pos hw]
  unfold Oper.wp execOp
  simp only [ho, resolve, invoke, builtin, Sem.run_bind, Sem.run_pure, Result.andThen_ok, List.map_toArray, List.map_cons, List.map_nil, hs, hx, hr]
  exact h

/-! ### plainly -/
/-- x with t at p -/
def ins (x : Nat → ByteArray) (t : ByteArray) (p j : Nat) : ByteArray := if j < p then x j else if j = p then t else x (j - 1)
theorem ins_lo {x : Nat → ByteArray} {t : ByteArray} {p j : Nat} (h : j < p) : ins x t p j = x j := by rw [ins, if_pos h]
theorem ins_at {x : Nat → ByteArray} {t : ByteArray} {p : Nat} : ins x t p p = t := by rw [ins, if_neg (by omega), if_pos rfl]
theorem ins_hi {x : Nat → ByteArray} {t : ByteArray} {p j : Nat} (h : p < j) : ins x t p j = x (j - 1) := by rw [ins, if_neg (by omega), if_neg (by omega)]
theorem del_lo {x : Nat → ByteArray} {p j : Nat} (h : j < p) : del x p j = x j := by rw [del, if_pos h]
theorem del_hi {x : Nat → ByteArray} {p j : Nat} (h : p ≤ j) : del x p j = x (j + 1) := by rw [del, if_neg (by omega)]
theorem del_ins {x : Nat → ByteArray} {t : ByteArray} {p : Nat} (j : Nat) : del (ins x t p) p j = x j := by
  by_cases h : j < p
  · rw [del_lo h, ins_lo h]
  · rw [del_hi (by omega), ins_hi (by omega), Nat.add_sub_cancel]
theorem slt_asymm {a b : ByteArray} (h : slt a b = true) : slt b a = false := by
  rcases Bool.eq_false_or_eq_true (slt b a) with t | t
  · have := slt_trans h t
    rw [slt_irrefl] at this; cases this
  · exact t
theorem Asc.ins {n p : Nat} {x : Nat → ByteArray} {t : ByteArray} (h : Asc n x) (hp : p ≤ n) (h1 : ∀ k, k < p → slt (x k) t = true) (h2 : p < n → slt (x p) t = false) : Asc (n + 1) (ins x t p) := fun i hi => by
  by_cases e1 : i + 1 < p
  · rw [ins_lo e1, ins_lo (by omega)]; exact h i (by omega)
  by_cases e2 : i + 1 = p
  · subst e2
    rw [ins_at, ins_lo (by omega)]; exact slt_asymm (h1 i (by omega))
  by_cases e3 : i = p
  · subst e3
    rw [ins_at, ins_hi (by omega), Nat.add_sub_cancel]; exact h2 (by omega)
  · rw [ins_hi (by omega), ins_hi (by omega), Nat.add_sub_cancel]
    have := h (i - 1) (by omega)
    rwa [show i - 1 + 1 = i by omega] at this
theorem Strict.del {n p : Nat} {x : Nat → ByteArray} (h : Strict n x) (hp : p < n) : Strict (n - 1) (del x p) := fun i hi => by
  by_cases e1 : i + 1 < p
  · rw [del_lo e1, del_lo (by omega)]; exact h i (by omega)
  by_cases e2 : i < p
  · rw [del_lo e2, del_hi (by omega)]; exact h.lt (by omega) (by omega)
  · rw [del_hi (by omega), del_hi (by omega)]; exact h (i + 1) (by omega)
theorem Strict.gone {n p : Nat} {x : Nat → ByteArray} (h : Strict n x) (hp : p < n) : ∀ k, k < n - 1 → Qxb6600057a.del x p k ≠ x p := fun k hk e => by
  by_cases e1 : k < p
  · rw [del_lo e1] at e
    exact ne_of_slt (h.lt e1 hp) e
  · rw [del_hi (by omega)] at e
    exact ne_of_slt (h.lt (show p < k + 1 by omega) (by omega)) e.symm
/-- the law's result -/
def Law (w : World) (e : Ending) (w' : World) : Prop := e = .returned (.bool true) ∧ Below w.heap.size w w'
theorem Law.mk {w w' : World} (h : Below w.heap.size w w') : Law w (.returned (.bool true)) w' := ⟨rfl, h⟩
theorem below_drewN {b : Nat} {w w' : World} (h : Below b w w') : ∀ d, Below b w (w'.drewN d)
  | 0 => h
  | d + 1 => (below_drewN h d).drew

/-! ### the readers that draw, told by what stays -/
def AnsB (P : Prop) (w : World) (e : Ending) (w' : World) : Prop := ∃ t : Bool, e = .returned (.bool t) ∧ (t = true ↔ P) ∧ Below w.heap.size w w'
theorem AnsD.b {P : Prop} {w w' : World} {e : Ending} (h : AnsD P w e w') : AnsB P w e w' := by
  obtain ⟨t, h1, h2, m, rfl⟩ := h
  exact ⟨t, h1, h2, below_drewN (Below.refl _ _) m⟩
theorem sorted8b (a : Option Addr) (n c : Nat) (x : Nat → ByteArray) (w : World) (hn : n ≤ 1048576) (h0 : SRow w a n x) : Calls Try.prog 8 #[.slice a n c] w (AnsB (Asc n x) w) :=
  (sorted8 a n c x w hn h0).mono fun _ _ h => h.b
theorem strict15b (a : Option Addr) (n c : Nat) (x : Nat → ByteArray) (w : World) (hn : n ≤ 1048576) (h0 : SRow w a n x) : Calls Try.prog 15 #[.slice a n c] w (AnsB (Strict n x) w) :=
  (strict15 a n c x w hn h0).mono fun _ _ h => h.b
theorem equal11b (a a' : Option Addr) (n c n' c' : Nat) (x y : Nat → ByteArray) (w : World) (hn : n ≤ 1048576) (hn' : n' ≤ 1048577) (h0 : SRow w a n x) (h1 : SRow w a' n' y) : Calls Try.prog 11 #[.slice a n c, .slice a' n' c'] w (AnsB (Eqs n n' x y) w) :=
  (equal11 a a' n c n' c' x y w hn hn' h0 h1).mono fun _ _ h => h.b
end Go.Proofs.Qxb6600057a
