import Derived.Test.Qxb6000409aH
namespace Go.Proofs.Qxb6000409a
open Go.RowKit Go.Maps

/-- the world of New's loops: B the result's block, B + 1 .. B + 3 the maps, B + 4 the struct -/
structure NInv (w : World) (B k j : Nat) (fp fd : ByteArray → Option Value) (wr : World) : Prop where
  below : Below B w wr
  size : B + 5 ≤ wr.heap.size
  res : wr.heap[B]? = some (.cells #[.map none, .map none, .map none] 32)
  p0 : wr.cell? ⟨B + 4, 0, none⟩ = some (.map (some (B + 1)))
  p1 : wr.cell? ⟨B + 4, 1, none⟩ = some (.map (some (B + 2)))
  p2 : wr.cell? ⟨B + 4, 2, none⟩ = some (.map (some (B + 3)))
  par : MapF wr (B + 1) k fp
  ch : ∃ fc, ChF wr (B + 2) k (B + 5) fc
  dep : MapF wr (B + 3) j fd
def box3 (B : Nat) : Obj := .cells #[.map (some (B + 1)), .map (some (B + 2)), .map (some (B + 3))] 32
def nw (w : World) : World := ((((w.alloc (.cells #[.map none, .map none, .map none] 32)).alloc (.map #[] 0)).alloc (.map #[] 0)).alloc (.map #[] 0)).alloc (box3 w.heap.size)

theorem ninv_start (w : World) (v : Nat → Value) (G : Nat → ByteArray) : NInv w w.heap.size 0 0 (fmap G v 0) (fun _ => none) (nw w) where
  below := by
    unfold nw
    exact ((((Below.refl _ w).alloc (by simp) _).alloc (by simp; try omega) _).alloc (by simp; try omega) _).alloc (by simp; try omega) _ |>.alloc (by simp; try omega) _
  size := by simp [nw]
  res := by
    unfold nw
    rw [Below.heap_alloc _ _ _ (by simp; omega), Below.heap_alloc _ _ _ (by simp; omega), Below.heap_alloc _ _ _ (by simp; omega), Below.heap_alloc _ _ _ (by simp)]
    exact Array.getElem?_push_size
  p0 := by
    unfold nw box3
    rw [World.cell?_alloc_at _ _ _ _ (by simp)]; rfl
  p1 := by
    unfold nw box3
    rw [World.cell?_alloc_at _ _ _ _ (by simp)]; rfl
  p2 := by
    unfold nw box3
    rw [World.cell?_alloc_at _ _ _ _ (by simp)]; rfl
  par := by
    have h := MapF.made (w.alloc (.cells #[.map none, .map none, .map none] 32))
    simp only [World.size_alloc] at h
    exact ((h.alloc _).alloc _).alloc _
  ch := by
    have h := MapF.made ((w.alloc (.cells #[.map none, .map none, .map none] 32)).alloc (.map #[] 0))
    simp only [World.size_alloc] at h
    exact ⟨fun _ => none, ⟨(h.alloc _).alloc _, (fun s v hv => (by cases hv)), (fun s t v u _ hv => (by cases hv))⟩⟩
  dep := by
    have h := MapF.made (((w.alloc (.cells #[.map none, .map none, .map none] 32)).alloc (.map #[] 0)).alloc (.map #[] 0))
    simp only [World.size_alloc] at h
    exact h.alloc _

theorem MapF.mono {w : World} {b n m : Nat} {f : ByteArray → Option Value} (h : MapF w b n f) (hm : n ≤ m) : MapF w b m f := by
  obtain ⟨D, ⟨es, cl, h1, h2, h3, h4⟩, hf⟩ := h
  exact ⟨D, ⟨es, cl, h1, h2, Nat.le_trans h3 hm, h4⟩, hf⟩
theorem ChF.mono {w : World} {b n m base : Nat} {f : ByteArray → Option Value} (h : ChF w b n base f) (hm : n ≤ m) : ChF w b m base f :=
  ⟨h.map.mono hm, fun s v hv => let ⟨l, xs, hl, r⟩ := h.row s v hv; ⟨l, xs, Nat.le_trans hl hm, r⟩, h.apart⟩
theorem NInv.drew {w wr : World} {B k j : Nat} {fp fd : ByteArray → Option Value} (h : NInv w B k j fp fd wr) : NInv w B k j fp fd wr.drew :=
  ⟨h.below.trans ⟨rfl, rfl, rfl, Nat.le_refl _, fun _ _ => rfl⟩, h.size, h.res, h.p0, h.p1, h.p2, h.par.drewN 1, let ⟨fc, hc⟩ := h.ch; ⟨fc, hc.drew⟩, h.dep.drewN 1⟩
/-- region 5: the parent's map -/
theorem NInv.setPar {w wr : World} {B k j : Nat} {fp fd : ByteArray → Option Value} (h : NInv w B k j fp fd wr) (hk : k ≤ 256) {s : ByteArray} (hs : s.size ≤ maxLen) (v : Value) :
    ∃ w', (Instr.mapUpdate 28 (.map (some (B + 1))) (.string s) v).run Try.prog wr = .ok () w' ∧ NInv w B (k + 1) j (fun x => if x = s then some v else fp x) fd w' ∧ (∃ fc, ChF w' (B + 2) k (B + 5) fc) ∧ Kp (B + 5) (B + 1) wr w' := by
  obtain ⟨w', hr, hm, hg⟩ := h.par.update Try.underlying28 (by unfold maxLen; omega) hs v
  have hs := h.size
  have k1 : Kp (B + 5) (B + 1) wr w' := Kp.of_grown hg hs (fun j hj => .inr (by cases hj; rfl))
  obtain ⟨fc, hc⟩ := h.ch
  have hc' := hc.of_blocks (w' := w') (k1.block _ (by omega) (by omega)) (fun j h1 h2 => hg.block j h2 (by simp; omega))
  refine ⟨w', hr, ⟨h.below.trans (k1.below (by omega) (by omega)), Nat.le_trans hs k1.size, ?_, ?_, ?_, ?_, hm, ⟨fc, hc'.mono (by omega)⟩, k1.mapF h.dep (by omega) (by omega)⟩, ⟨fc, hc'⟩, k1⟩
  · rw [k1.block _ (by omega) (by omega)]; exact h.res
  · rw [k1.cell _ (by omega) (by omega)]; exact h.p0
  · rw [k1.cell _ (by omega) (by omega)]; exact h.p1
  · rw [k1.cell _ (by omega) (by omega)]; exact h.p2
/-- region 7: the children's map -/
theorem NInv.setCh {w wr : World} {B k k' j : Nat} {fp fd : ByteArray → Option Value} (h : NInv w B k j fp fd wr) (hc : ∃ fc, ChF wr (B + 2) k' (B + 5) fc) (hk' : k' < k) (hk : k ≤ 256) {s g : ByteArray} (hs : s.size ≤ maxLen) :
    ∃ v v' w1 w2, (Instr.lookup 29 (.map (some (B + 2))) (.string s) false).run Try.prog wr = .ok v wr ∧
      (Instr.lookup 29 (.map (some (B + 2))) (.string s) false).run Try.prog (wr.alloc (.cells #[.string g] 9)) = .ok v (wr.alloc (.cells #[.string g] 9)) ∧
      (Builtin.append_ #[22, 22] 22 #[v, .slice (some ⟨wr.heap.size, 0, none⟩) 1 1]).run Try.prog (wr.alloc (.cells #[.string g] 9)) = .ok v' w1 ∧
      (Instr.mapUpdate 29 (.map (some (B + 2))) (.string s) v').run Try.prog w1 = .ok () w2 ∧
      Kp (B + 5) (B + 2) wr w1 ∧ NInv w B k j fp fd w2 ∧ Kp (B + 5) (B + 2) wr w2 := by
  obtain ⟨fc, hc⟩ := hc
  have hs' := h.size
  obtain ⟨v, v', w1, w2, r1, r2, r3, r4, k1, k2, hc2⟩ := child_step hc (by omega) hs' (by omega) hs (g := g)
  refine ⟨v, v', w1, w2, r1, r2, r3, r4, k1, ⟨h.below.trans (k2.below (by omega) (by omega)), Nat.le_trans hs' k2.size, ?_, ?_, ?_, ?_, k2.mapF h.par (by omega) (by omega), ⟨_, hc2.mono (by omega)⟩, k2.mapF h.dep (by omega) (by omega)⟩, k2⟩
  · rw [k2.block _ (by omega) (by omega)]; exact h.res
  · rw [k2.cell _ (by omega) (by omega)]; exact h.p0
  · rw [k2.cell _ (by omega) (by omega)]; exact h.p1
  · rw [k2.cell _ (by omega) (by omega)]; exact h.p2
/-- region 17: the depth's map -/
theorem NInv.setDep {w wr : World} {B k j : Nat} {fp fd : ByteArray → Option Value} (h : NInv w B k j fp fd wr) (hj : j ≤ 256) {s : ByteArray} (hs : s.size ≤ maxLen) (v : Value) :
    ∃ w', (Instr.mapUpdate 30 (.map (some (B + 3))) (.string s) v).run Try.prog wr = .ok () w' ∧ NInv w B k (j + 1) fp (fun x => if x = s then some v else fd x) w' := by
  obtain ⟨w', hr, hm, hg⟩ := h.dep.update Try.underlying30 (by unfold maxLen; omega) hs v
  have hs := h.size
  have k1 : Kp (B + 5) (B + 3) wr w' := Kp.of_grown hg hs (fun j hj => .inr (by cases hj; rfl))
  obtain ⟨fc, hc⟩ := h.ch
  refine ⟨w', hr, ⟨h.below.trans (k1.below (by omega) (by omega)), Nat.le_trans hs k1.size, ?_, ?_, ?_, ?_, k1.mapF h.par (by omega) (by omega), ⟨fc, ?_⟩, hm⟩⟩
  · rw [k1.block _ (by omega) (by omega)]; exact h.res
  · rw [k1.cell _ (by omega) (by omega)]; exact h.p0
  · rw [k1.cell _ (by omega) (by omega)]; exact h.p1
  · rw [k1.cell _ (by omega) (by omega)]; exact h.p2
  · exact hc.of_blocks (k1.block _ (by omega) (by omega)) (fun j h1 h2 => hg.block j h2 (by simp; omega))
/-- an append whose run is known, at a step of a region -/
theorem step_append_eq {P : Program} {w : World} {ops : Array Oper} {o : Oper} {a : Act} {K : Act → World → Prop} {Q : Exit → Act → World → Prop} {E : Prop} (hgd : o.guard = none) (s x : Operand) (t : TypeId)
    (ho : o.op = .call { callee := .builtin .append, args := #[s, x], argTypes := #[t, t] }) (v u v' : Value) (w1 : World) (hs : a.eval s = v) (hx : a.eval x = u)
    (hr : (Builtin.append_ #[t, t] o.type #[v, u]).run P w = .ok v' w1) (h : K (a.put o.dst v') w1) :
    if Region.wanted o (yielded ops a.tmps) = true then Oper.wp P o a w K Q else E := by
  have hw : Region.wanted o (yielded ops a.tmps) = true := by simp [Region.wanted, hgd]
  rw [if_pos hw]
  unfold Oper.wp execOp
  simp only [ho, resolve, invoke, builtin, Sem.run_bind, Sem.run_pure, Result.andThen_ok, List.map_toArray, List.map_cons, List.map_nil, hs, hx, hr]
  exact h

/-! ### what New and lca read -/
def dpt (n : Nat) (G P : Nat → ByteArray) (i : Nat) : Nat := dp (up n G P) (n + 1) i - 1
theorem Good.seen {n : Nat} {G P : Nat → ByteArray} (h : Good n G P) : Seen n G P n := ⟨h.ne, h.apart, h.known⟩
theorem Good.isUp {n : Nat} {G P : Nat → ByteArray} (h : Good n G P) : Up n (up n G P) (dpt n G P) :=
  Up.of (fun i hi => up_lim h.seen hi) h.ends (fun i j hi hj h1 h2 => by
    have key : ∀ i, i < n → up n G P i = -1 → emp (P i) = true := fun i hi h1 => by
      rcases Bool.eq_false_or_eq_true (emp (P i)) with t | t
      · exact t
      · have := h.known i hi t
        rw [up_else t] at h1
        omega
    exact cnt_one (h.one (by omega)) hi hj (key i hi h1) (key j hj h2))
/-- the name at a place; none above the root -/
def nm (G : Nat → ByteArray) (z : Int) : ByteArray := if z < 0 then e0 else G z.toNat
theorem nm_nat (G : Nat → ByteArray) (k : Nat) : nm G k = G k := by rw [nm, if_neg (by omega), Int.toNat_natCast]
theorem nm_root (G : Nat → ByteArray) : nm G (-1) = e0 := by simp [nm]
theorem Good.nm {n : Nat} {G P : Nat → ByteArray} (h : Good n G P) {i : Nat} (hi : i < n) : P i = nm G (up n G P i) := by
  rcases Bool.eq_false_or_eq_true (emp (P i)) with t | t
  · rw [up_root t, nm_root]; exact emp_iff.1 t
  · rw [up_else t]
    have hk := h.known i hi t
    unfold idx at hk ⊢
    rcases stepI_spec (fun j => seq (G j) (P i)) n with ⟨h1, _⟩ | ⟨s, h1, h2, h3, _⟩
    · omega
    · rw [h1, nm_nat]; exact (seq_iff.1 h3).symm
theorem Good.inj {n : Nat} {G P : Nat → ByteArray} (h : Good n G P) : ∀ i, i < n → ∀ j, j < i → G j ≠ G i := fun i hi j hj => seq_false.1 (h.apart i hi j hj)
theorem Good.eq {n : Nat} {G P : Nat → ByteArray} (h : Good n G P) {i j : Nat} (hi : i < n) (hj : j < n) (e : G i = G j) : i = j := by
  rcases Nat.lt_trichotomy i j with l | l | l
  · exact absurd e (h.inj j hj i l)
  · exact l
  · exact absurd e.symm (h.inj i hi j l)
theorem Good.idx {n : Nat} {G P : Nat → ByteArray} (h : Good n G P) {i : Nat} (hi : i < n) : idx n G (G i) = i := by
  refine stepI_hit hi (seq_self _) (fun j hj => h.apart i hi j hj)
def strs (P : Nat → ByteArray) (i : Nat) : Value := .string (P i)
def deps (d : Nat → Nat) (i : Nat) : Value := .int .i64 (d i)
theorem par_lookup {w : World} {b n : Nat} {G P : Nat → ByteArray} (h : MapF w b n (fmap G (strs P) n)) (hT : Good n G P) {i : Nat} (hi : i < n) (hs : (G i).size ≤ maxLen) :
    (Instr.lookup 28 (.map (some b)) (.string (G i)) false).run Try.prog w = .ok (.string (P i)) w := by
  rw [h.lookup Try.underlying28 (zero9 _) hs, fmap_at hT.inj hi]; rfl
theorem dep_lookup {w : World} {b n : Nat} {G P : Nat → ByteArray} {d : Nat → Nat} (h : MapF w b n (fmap G (deps d) n)) (hT : Good n G P) {i : Nat} (hi : i < n) (hs : (G i).size ≤ maxLen) :
    (Instr.lookup 30 (.map (some b)) (.string (G i)) false).run Try.prog w = .ok (.int .i64 (d i)) w := by
  rw [h.lookup Try.underlying30 (zero3 _) hs, fmap_at hT.inj hi]; rfl

/-- what New gives back -/
def NewRes (w : World) (n : Nat) (G P : Nat → ByteArray) (e : Ending) (w' : World) : Prop :=
  ∃ mp mc md, e = .returned (.agg #[.map (some mp), .map (some mc), .map (some md)]) ∧ Below w.heap.size w w' ∧ MapF w' mp n (fmap G (strs P) n) ∧ MapF w' md n (fmap G (deps (dpt n G P)) n)
theorem NInv.done {w wr : World} {n : Nat} {G P : Nat → ByteArray} (h : NInv w w.heap.size n n (fmap G (strs P) n) (fmap G (deps (dpt n G P)) n) wr) (v0 v1 v2 : Value) :
    NewRes w n G P (.returned (.agg #[.map (some (w.heap.size + 1)), .map (some (w.heap.size + 2)), .map (some (w.heap.size + 3))])) (((wr.setCell ⟨w.heap.size, 0, none⟩ v0).setCell ⟨w.heap.size, 1, none⟩ v1).setCell ⟨w.heap.size, 2, none⟩ v2) :=
  ⟨_, _, _, rfl, ((h.below.setCell (Nat.le_refl _) _).setCell (Nat.le_refl _) _).setCell (Nat.le_refl _) _,
    ((h.par.setCell (by show _ ≠ w.heap.size; omega) _).setCell (by show _ ≠ w.heap.size; omega) _).setCell (by show _ ≠ w.heap.size; omega) _,
    ((h.dep.setCell (by show _ ≠ w.heap.size; omega) _).setCell (by show _ ≠ w.heap.size; omega) _).setCell (by show _ ≠ w.heap.size; omega) _⟩
theorem NInv.resCells {w wr : World} {B k j : Nat} {fp fd : ByteArray → Option Value} (h : NInv w B k j fp fd wr) :
    wr.cell? ⟨B, 0, none⟩ = some (.map none) ∧ wr.cell? ⟨B, 1, none⟩ = some (.map none) ∧ wr.cell? ⟨B, 2, none⟩ = some (.map none) ∧ wr.frozen? ⟨B, 0, none⟩ = false ∧ wr.frozen? ⟨B, 1, none⟩ = false ∧ wr.frozen? ⟨B, 2, none⟩ = false := by
  have hr := h.res
  refine ⟨?_, ?_, ?_, ?_, ?_, ?_⟩ <;> simp [World.cell?, World.frozen?, hr]
end Go.Proofs.Qxb6000409a
