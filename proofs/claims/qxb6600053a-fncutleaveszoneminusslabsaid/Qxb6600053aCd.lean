import Derived.Test.Qxb6600053aCc
import Derived.Deep.DeepCutAuto
import Derived.Deep.RegionHeld3
import Derived.Deep.DrawnRows
import Derived.RegionTactic
import Derived.BigRegion
namespace Go.Proofs.Qxb6600053a
open Go.RowKit

theorem hide {p : Prop} (h : p) : Hid p := h
theorem unhide {p : Prop} (h : Hid p) : p := h

def leq (x y : Nat) : Bool := fo x y == some .lt || fo x y == some .eq
/-- o's extent holds z's, or k is spared -/
def inP (zl zh ol oh : Nat → Nat) (kk : Int) (i : Nat) : Bool := ((i : Int) == kk) || (leq (ol i) (zl i) && leq (zh i) (oh i))

/-- the extents overlap, or k is spared -/
def ovK (zl zh ol oh : Nat → Nat) (kk : Int) (i : Nat) : Bool := ((i : Int) == kk) || ovI zl zh ol oh i

/-- the value is a slice of zones with these bounds -/
def PiecesAt (w : World) (n : Nat) (v : Value) (Ps : List ((Nat → Nat) × (Nat → Nat))) : Prop :=
  ∃ (ao : Option Addr) (cap g : Nat), v = .slice ao Ps.length cap ∧ (0 < Ps.length → ao = some ⟨g, 0, none⟩) ∧ ∀ j p, Ps[j]? = some p → ∃ pa fa ca pb fb cb, w.cell? ⟨g, j * 2, none⟩ = some (.slice (some ⟨pa, fa, none⟩) n ca) ∧
    w.cell? ⟨g, j * 2 + 1, none⟩ = some (.slice (some ⟨pb, fb, none⟩) n cb) ∧ FAt w pa fa n p.1 ∧ FAt w pb fb n p.2

theorem info26 : (Try.prog.info? 26).map (fun i => (i.zero, i.size, i.bytes)) = some (some (.agg #[.slice none 0 0, .slice none 0 0]), 2, 48) := by kernel_rfl

attribute [local go_sem] run_store_f


/-- the two boxes of z and o -/
def zo (w : World) (s0 s1 s2 s3 : Value) : World := (w.alloc (.cells #[s0, s1] 26)).alloc (.cells #[s2, s3] 26)
theorem zo_size (w : World) (s0 s1 s2 s3 : Value) : (zo w s0 s1 s2 s3).heap.size = w.heap.size + 1 + 1 := by simp [zo]
theorem zo_below (w : World) (s0 s1 s2 s3 : Value) : Below w.heap.size w (zo w s0 s1 s2 s3) := ((Below.refl w.heap.size w).alloc (Nat.le_refl _) _).alloc (by simp) _
section
variable {w wr : World} {s0 s1 s2 s3 : Value} (h : Below (w.heap.size + 1 + 1) (zo w s0 s1 s2 s3) wr)
theorem zo_0 (h : Below (w.heap.size + 1 + 1) (zo w s0 s1 s2 s3) wr) : wr.cell? ⟨w.heap.size, 0, none⟩ = some s0 := by
  rw [h.cell (p := ⟨w.heap.size, 0, none⟩) (by show w.heap.size < _; omega)]; simp [zo, go_sem]
theorem zo_1 (h : Below (w.heap.size + 1 + 1) (zo w s0 s1 s2 s3) wr) : wr.cell? ⟨w.heap.size, 1, none⟩ = some s1 := by
  rw [h.cell (p := ⟨w.heap.size, 1, none⟩) (by show w.heap.size < _; omega)]; simp [zo, go_sem]
theorem zo_2 (h : Below (w.heap.size + 1 + 1) (zo w s0 s1 s2 s3) wr) : wr.cell? ⟨w.heap.size + 1, 0, none⟩ = some s2 := by
  rw [h.cell (p := ⟨w.heap.size + 1, 0, none⟩) (by show w.heap.size + 1 < _; omega)]; simp [zo, go_sem]
theorem zo_3 (h : Below (w.heap.size + 1 + 1) (zo w s0 s1 s2 s3) wr) : wr.cell? ⟨w.heap.size + 1, 1, none⟩ = some s3 := by
  rw [h.cell (p := ⟨w.heap.size + 1, 1, none⟩) (by show w.heap.size + 1 < _; omega)]; simp [zo, go_sem]
theorem zo_old (h : Below (w.heap.size + 1 + 1) (zo w s0 s1 s2 s3) wr) : Below w.heap.size w wr := (zo_below w s0 s1 s2 s3).trans (h.mono (by omega))
theorem zo_le (h : Below (w.heap.size + 1 + 1) (zo w s0 s1 s2 s3) wr) : w.heap.size + 1 + 1 ≤ wr.heap.size := by have := h.size; rwa [zo_size] at this
end

theorem own_cell {w : World} {base g m cap j : Nat} {xs : List Value} {u : Value} (h : w.ownsRow base 26 2 (.slice (some ⟨g, 0, none⟩) m cap) m xs) (hj : xs[j]? = some u) : w.cell? ⟨g, j, none⟩ = some u := by
  have hl : j < xs.length := (List.getElem?_eq_some_iff.1 hj).1
  rw [h.1] at hl
  rcases h.2 with ⟨h', _⟩ | ⟨g', cap', cur, hv, hb, hg, h1, h2, h3, h4⟩
  · simp at h'
  · simp at hv
    obtain ⟨rfl, rfl⟩ := hv
    have : (cur.toList.take (m * 2))[j]? = some u := by rw [h4]; exact hj
    rw [List.getElem?_take, if_pos hl] at this
    simp [World.cell?, hg]
    simpa using this

theorem news_two (w : World) (s0 s1 : Value) : ∀ j u, [s0, s1][j]? = some u → (w.alloc (.cells #[s0, s1] 26)).cell? (Addr.add ⟨w.heap.size, 0, none⟩ j) = some u := by
  intro j u hj
  rw [addr_add, Nat.zero_add, World.cell?_alloc_at _ _ _ _ rfl]
  simpa using hj

/-- what cut returns -/
def rlF (zl ol : Nat → Nat) (kk : Int) (d : Nat) (j : Nat) : Nat := if j < d ∧ (j : Int) ≠ kk ∧ (fo (zl j) (ol j) == some .lt) = true then ol j else zl j
def rhF (zh oh : Nat → Nat) (kk : Int) (d : Nat) (j : Nat) : Nat := if j < d ∧ (j : Int) ≠ kk ∧ (fo (zh j) (oh j) == some .gt) = true then oh j else zh j
def pcs (zl zh ol oh : Nat → Nat) (kk : Int) : Nat → List ((Nat → Nat) × (Nat → Nat))
  | 0 => []
  | d + 1 => pcs zl zh ol oh kk d ++ (if ((d : Int) == kk) = true then [] else
      (if (fo (zl d) (ol d) == some .lt) = true then [(rlF zl ol kk d, fun i => if i = d then ol d else rhF zh oh kk d i)] else []) ++
      (if (fo (zh d) (oh d) == some .gt) = true then [(fun i => if i = d then oh d else rlF zl ol kk d i, rhF zh oh kk d)] else []))

theorem pcs_len (zl zh ol oh : Nat → Nat) (kk : Int) : ∀ d, (pcs zl zh ol oh kk d).length ≤ 2 * d
  | 0 => Nat.le_refl _
  | d + 1 => by
    have := pcs_len zl zh ol oh kk d
    simp only [pcs, List.length_append]
    split
    · simp; omega
    · simp only [List.length_append]
      split <;> split <;> simp <;> omega
theorem rlF_succ_lt {zl ol : Nat → Nat} {kk : Int} {d : Nat} (hk : ¬ (d : Int) = kk) (t : (fo (zl d) (ol d) == some .lt) = true) : rlF zl ol kk (d + 1) = fun i => if i = d then ol d else rlF zl ol kk d i := by
  funext j
  unfold rlF
  by_cases e : j = d
  · subst e; rw [if_pos ⟨by omega, hk, t⟩, if_pos rfl]
  · have : (j < d + 1) = (j < d) := propext (by omega)
    simp only [this, e, if_false]
theorem rlF_succ_ge {zl ol : Nat → Nat} {kk : Int} {d : Nat} (t : (fo (zl d) (ol d) == some .lt) = false) : rlF zl ol kk (d + 1) = rlF zl ol kk d := by
  funext j
  unfold rlF
  by_cases e : j = d
  · subst e; simp [t]
  · have : (j < d + 1) = (j < d) := propext (by omega)
    simp only [this]
theorem rhF_succ_gt {zh oh : Nat → Nat} {kk : Int} {d : Nat} (hk : ¬ (d : Int) = kk) (t : (fo (zh d) (oh d) == some .gt) = true) : rhF zh oh kk (d + 1) = fun i => if i = d then oh d else rhF zh oh kk d i := by
  funext j
  unfold rhF
  by_cases e : j = d
  · subst e; rw [if_pos ⟨by omega, hk, t⟩, if_pos rfl]
  · have : (j < d + 1) = (j < d) := propext (by omega)
    simp only [this, e, if_false]
theorem rhF_succ_le {zh oh : Nat → Nat} {kk : Int} {d : Nat} (t : (fo (zh d) (oh d) == some .gt) = false) : rhF zh oh kk (d + 1) = rhF zh oh kk d := by
  funext j
  unfold rhF
  by_cases e : j = d
  · subst e; simp [t]
  · have : (j < d + 1) = (j < d) := propext (by omega)
    simp only [this]

def CutIs (n : Nat) (zl zh ol oh : Nat → Nat) (kk : Int) (Ps : List ((Nat → Nat) × (Nat → Nat))) : Prop :=
  ((∃ i, i < n ∧ ((i : Int) == kk) = false ∧ ovI zl zh ol oh i = false) ∧ Ps = [(zl, zh)]) ∨ (allB n (inP zl zh ol oh kk) = true ∧ Ps = []) ∨ (allB n (ovK zl zh ol oh kk) = true ∧ Ps = pcs zl zh ol oh kk n)

def CutPost (n : Nat) (zl zh ol oh : Nat → Nat) (kk : Int) (w : World) (e : Ending) (w' : World) : Prop :=
  ∃ v Ps, e = .returned v ∧ PiecesAt w' n v Ps ∧ Below w.heap.size w w' ∧ CutIs n zl zh ol oh kk Ps

/-- an empty zone's box -/
def BoxC (w : World) (q : Nat) : Prop := w.cell? ⟨q, 0, none⟩ = some (.slice none 0 0) ∧ w.cell? ⟨q, 1, none⟩ = some (.slice none 0 0) ∧ w.frozen? ⟨q, 0, none⟩ = false ∧ w.frozen? ⟨q, 1, none⟩ = false
theorem box_new {w0 w1 : World} (hb : Below (w0.alloc (.cells #[.slice none 0 0, .slice none 0 0] 26)).heap.size (w0.alloc (.cells #[.slice none 0 0, .slice none 0 0] 26)) w1) : BoxC w1 w0.heap.size := by
  have l : w0.heap.size < (w0.alloc (.cells #[.slice none 0 0, .slice none 0 0] 26)).heap.size := by simp
  exact ⟨by rw [hb.cell (p := ⟨w0.heap.size, 0, none⟩) l]; simp [go_sem], by rw [hb.cell (p := ⟨w0.heap.size, 1, none⟩) l]; simp [go_sem], by rw [hb.frozen (p := ⟨w0.heap.size, 0, none⟩) l]; simp [go_sem], by rw [hb.frozen (p := ⟨w0.heap.size, 1, none⟩) l]; simp [go_sem]⟩
theorem box_newd {w0 w1 : World} (hb : Below (w0.alloc (.cells #[.slice none 0 0, .slice none 0 0] 26)).drew.heap.size (w0.alloc (.cells #[.slice none 0 0, .slice none 0 0] 26)).drew w1) : BoxC w1 w0.heap.size :=
  box_new (w0 := w0) ⟨hb.os, hb.tape, hb.output, hb.size, hb.block⟩
theorem BoxC.carry {w1 w2 : World} {q : Nat} (h : BoxC w1 q) (hb : Below w1.heap.size w1 w2) : BoxC w2 q := by
  obtain ⟨h1, h2, h3, h4⟩ := h
  have l : q < w1.heap.size := by
    by_cases hq : q < w1.heap.size
    · exact hq
    · unfold World.cell? at h1
      have : w1.heap[q]? = none := by simp; omega
      simp [this] at h1
  exact ⟨by rw [hb.cell (p := ⟨q, 0, none⟩) l]; exact h1, by rw [hb.cell (p := ⟨q, 1, none⟩) l]; exact h2, by rw [hb.frozen (p := ⟨q, 0, none⟩) l]; exact h3, by rw [hb.frozen (p := ⟨q, 1, none⟩) l]; exact h4⟩
theorem FAt.allocd {w : World} {b f n : Nat} {x : Nat → Nat} {o : Obj} (h : FAt w b f n x) (hb : b < w.heap.size) : FAt (w.alloc o) b f n x := fun i hi => by
  rw [World.cell?_alloc_past _ _ _ hb]; exact h i hi
theorem pcs_step {zl zh ol oh : Nat → Nat} {kk : Int} {d : Nat} {t1 t2 : Bool} (hk : ¬ (d : Int) = kk) (h1 : (fo (zl d) (ol d) == some .lt) = t1) (h2 : (fo (zh d) (oh d) == some .gt) = t2) :
    pcs zl zh ol oh kk (d + 1) = (pcs zl zh ol oh kk d ++ (if t1 = true then [(rlF zl ol kk d, fun i => if i = d then ol d else rhF zh oh kk d i)] else [])) ++
      (if t2 = true then [(fun i => if i = d then oh d else rlF zl ol kk (d + 1) i, rhF zh oh kk d)] else []) := by
  have e : (fun i => if i = d then oh d else rlF zl ol kk (d + 1) i) = fun i => if i = d then oh d else rlF zl ol kk d i := by
    funext i
    by_cases e : i = d
    · simp [e]
    · have : (i < d + 1) = (i < d) := propext (by omega)
      simp only [e, if_false, rlF, this]
  have hk' : ((d : Int) == kk) = false := by simpa using hk
  rw [e, pcs, hk', h1, h2, List.append_assoc]
  simp

theorem pieces_of {W0 : World} {B R n ra ca rb cb : Nat} {rl rh : Nat → Nat} {v : Value} {Ps : List Piece} {wr : World} (h : CInv W0 B R n ra ca rb cb rl rh v Ps wr) : PiecesAt wr n v (Ps.map (fun p => (p.l, p.h))) := by
  have key : ∀ (j : Nat) (p : Piece), Ps[j]? = some p → (pcells n Ps)[j * 2]? = some (.slice (some ⟨p.a, 0, none⟩) n p.ca) ∧ (pcells n Ps)[j * 2 + 1]? = some (.slice (some ⟨p.b, 0, none⟩) n p.cb) := by
    have gen : ∀ (Ps : List Piece) (j : Nat) (p : Piece), Ps[j]? = some p → (pcells n Ps)[j * 2]? = some (.slice (some ⟨p.a, 0, none⟩) n p.ca) ∧ (pcells n Ps)[j * 2 + 1]? = some (.slice (some ⟨p.b, 0, none⟩) n p.cb) := by
      intro Ps
      induction Ps with
      | nil => intro j p hj; simp at hj
      | cons q Ps ih =>
        intro j p hj
        cases j with
        | zero => simp at hj; subst hj; exact ⟨rfl, rfl⟩
        | succ j =>
          have := ih j p (by simpa using hj)
          have e1 : pcells n (q :: Ps) = pcell n q ++ pcells n Ps := by simp [pcells]
          rw [e1]
          have e2 : (j + 1) * 2 = j * 2 + 1 + 1 := by omega
          rw [e2]
          exact this
    exact gen Ps
  rcases h.own.2 with ⟨hv, h0⟩ | ⟨g, cap, cur, hv, _⟩
  · have : Ps = [] := List.length_eq_zero_iff.1 h0
    subst this
    subst hv
    exact ⟨none, 0, 0, rfl, fun h => absurd h (by simp), fun j p hj => absurd hj (by simp)⟩
  · have hown := h.own
    rw [hv] at hown
    refine ⟨some ⟨g, 0, none⟩, cap, g, by rw [List.length_map]; exact hv, fun _ => rfl, fun j p hj => ?_⟩
    rw [List.getElem?_map] at hj
    cases hp : Ps[j]? with
    | none => rw [hp] at hj; cases hj
    | some p' =>
      rw [hp] at hj
      simp at hj
      subst hj
      obtain ⟨k1, k2⟩ := key j p' hp
      obtain ⟨f1, f2, _⟩ := h.ps p' (List.mem_of_getElem? hp)
      exact ⟨p'.a, 0, p'.ca, p'.b, 0, p'.cb, own_cell hown k1, own_cell hown k2, f1.at, f2.at⟩

set_option maxRecDepth 100000 in
set_option maxHeartbeats 6400000 in
theorem cut_some (b0 f0 b1 f1 b2 f2 b3 f3 n c0 c1 c2 c3 : Nat) (kk : Int) (zl zh ol oh : Nat → Nat) (w : World) (hn0 : 0 < n) (hn : n ≤ 1048576) (h0 : FAt w b0 f0 n zl) (h1 : FAt w b1 f1 n zh) (h2 : FAt w b2 f2 n ol) (h3 : FAt w b3 f3 n oh) :
    Calls Try.prog 32 #[.agg #[.slice (some ⟨b0, f0, none⟩) n c0, .slice (some ⟨b1, f1, none⟩) n c1], .agg #[.slice (some ⟨b2, f2, none⟩) n c2, .slice (some ⟨b3, f3, none⟩) n c3], .int .i64 kk, .slice none 0 0] w fun e w' => CutPost n zl zh ol oh kk w e w' := by
  have k0 := h0.lt' hn0
  have k1 := h1.lt' hn0
  have k2 := h2.lt' hn0
  have k3 := h3.lt' hn0
  have H := hide (And.intro h0 (And.intro h1 (And.intro h2 h3)))
  obtain ⟨i0, hi, hz0, hz1, hz2⟩ := info_parts info26
  clear h0 h1 h2 h3
  go_enter Try.func32, Try.ntmps32
  go_wp2
  go_loopw [9, 18] (fun ins i wr => ∃ (k : Nat) (bi : Bool), k ≤ n ∧ i = .int .i64 k ∧ ins = .bool bi ∧ Hid (bi = allB k (inP zl zh ol oh kk)) ∧ Hid (allB k (ovK zl zh ol oh kk) = true) ∧ Hid (Below (w.heap.size + 1 + 1) (zo w (.slice (some ⟨b0, f0, none⟩) n c0) (.slice (some ⟨b1, f1, none⟩) n c1) (.slice (some ⟨b2, f2, none⟩) n c2) (.slice (some ⟨b3, f3, none⟩) n c3)) wr)) (fun _ i _ => n - (intOf i).toNat)
  case atStart => exact ⟨0, true, Nat.zero_le _, rfl, rfl, rfl, rfl, Below.refl _ _⟩
  case round =>
    obtain ⟨k, bi, hk, rfl, rfl, HI, HO, HB⟩ := hrel
    have z0 := zo_0 HB.out
    have z1 := zo_1 HB.out
    have z2 := zo_2 HB.out
    have z3 := zo_3 HB.out
    have hsz := zo_le HB.out
    by_cases hlt : k < n
    · by_cases hkk : (k : Int) = kk
      · have hkk' : ((k : Int) == kk) = true := by simpa using hkk
        have HS : Hid (allB k (inP zl zh ol oh kk) = allB (k + 1) (inP zl zh ol oh kk)) := by
          show _ = _
          have : inP zl zh ol oh kk k = true := by simp [inP, hkk]
          simp [allB, List.range_succ, this]
        clear hkk
        go_wp2
        go_roundw
        case rel => exact ⟨k + 1, bi, hlt, by go_num, rfl, HI.out.trans HS.out, allB_succ HO.out (by unfold ovK; rw [hkk']; rfl), HB⟩
        case measure => simp [intOf]; omega
      · have hkk' : ((k : Int) == kk) = false := by simpa using hkk
        clear hkk
        go_wp2_with fail
        have hb := zo_old HB.out
        obtain ⟨h0, h1, h2, h3⟩ := unhide H
        refine (ovin_some b0 f0 b1 f1 b2 f2 b3 f3 n c0 c1 c2 c3 k zl zh ol oh _ hlt (h0.below hb k0) (h1.below hb k1) (h2.below hb k2) (h3.below hb k3) (by omega) (by omega) (by omega) (by omega)).mono ?_
        rintro e w1 ⟨rfl, hb1⟩
        have HB1 : Hid (Below (w.heap.size + 1 + 1) (zo w (.slice (some ⟨b0, f0, none⟩) n c0) (.slice (some ⟨b1, f1, none⟩) n c1) (.slice (some ⟨b2, f2, none⟩) n c2) (.slice (some ⟨b3, f3, none⟩) n c3)) w1) := HB.out.trans (hb1.mono hsz)
        clear hb hb1 h0 h1 h2 h3 HB z0 z1 z2 z3 hsz
        have z0 := zo_0 HB1.out
        have z1 := zo_1 HB1.out
        have z2 := zo_2 HB1.out
        have z3 := zo_3 HB1.out
        have hsz := zo_le HB1.out
        rcases Bool.eq_false_or_eq_true (ovI zl zh ol oh k) with t | t
        · have hb := zo_old HB1.out
          obtain ⟨h0, h1, h2, h3⟩ := unhide H
          have g0 := (h0.below hb k0) k hlt
          have g1 := (h1.below hb k1) k hlt
          have g2 := (h2.below hb k2) k hlt
          have g3 := (h3.below hb k3) k hlt
          clear hb h0 h1 h2 h3 hi hz0 hz1 hz2
          have HS : Hid (allB (k + 1) (inP zl zh ol oh kk) = (allB k (inP zl zh ol oh kk) && (leq (ol k) (zl k) && leq (zh k) (oh k)))) := by
            show _ = _
            simp [allB, List.range_succ, inP, hkk']
          cases bi
          rotate_left
          · have t1 : Hid (allB k (inP zl zh ol oh kk) = true) := HI.out.symm
            rcases Bool.eq_false_or_eq_true (leq (ol k) (zl k)) with t2 | t2
            · have t2' : (fo (ol k) (zl k) == some .lt || fo (ol k) (zl k) == some .eq) = true := t2
              go_wp2
              go_quiet (fail)
              go_wp2
              go_roundw
              case rel => exact ⟨k + 1, _, hlt, by go_num, rfl, by show _ = _; rw [HS.out, t1.out, t2]; rfl, allB_succ HO.out (by unfold ovK; rw [t]; simp), below_drewN HB1.out _⟩
              case measure => simp [intOf]; omega
            · have t2' : (fo (ol k) (zl k) == some .lt || fo (ol k) (zl k) == some .eq) = false := t2
              go_wp2
              go_quiet (fail)
              go_wp2
              go_roundw
              case rel => exact ⟨k + 1, _, hlt, by go_num, rfl, by show _ = _; rw [HS.out, t1.out, t2]; rfl, allB_succ HO.out (by unfold ovK; rw [t]; simp), below_drewN HB1.out _⟩
              case measure => simp [intOf]; omega
          · have t1 : Hid (allB k (inP zl zh ol oh kk) = false) := HI.out.symm
            go_wp2
            go_quiet (fail)
            go_wp2
            go_roundw
            case rel => exact ⟨k + 1, _, hlt, by go_num, rfl, by show _ = _; rw [HS.out, t1.out]; rfl, allB_succ HO.out (by unfold ovK; rw [t]; simp), below_drewN HB1.out _⟩
            case measure => simp [intOf]; omega
        · go_wp2_with (at_builtin; refine wpList_append_lies _ rfl _ _ _ rfl (w.heap.size + 1 + 1) 26 i0 (.agg #[.slice none 0 0, .slice none 0 0]) 2 48 Try.underlying35 hi hz0 hz1 hz2 rfl (by omega) _ 0 [] (by rfl) ?d0 ⟨w1.heap.size, 0, none⟩ 1 1 [.slice (some ⟨b0, f0, none⟩) n c0, .slice (some ⟨b1, f1, none⟩) n c1] (by rfl) ?d1 ?d2 ?d3 (by omega) ?d4 ?d5 ?d6 (w1.heap.size + 1) (by simp) ?_)
          case d0 => exact World.ownsRow_nil _ _ _ _
          case d1 => rfl
          case d2 => exact news_two w1 _ _
          case d3 => intro u hu; simp at hu; rcases hu with rfl | rfl <;> rfl
          case d4 => unfold maxLen; omega
          case d5 => omega
          case d6 => simp; omega
          intro g cap w2 hown hgrow hat hlt2
          have HX := hide (And.intro hown hgrow)
          clear hown hgrow hat hlt2
          go_wp2
          go_ret
          obtain ⟨hown, hgrow⟩ := unhide HX
          have hb2 : Below w1.heap.size w1 w2 := ((Below.refl _ _).alloc (Nat.le_refl _) _).grown hgrow (by simp) (fun k hk => by simp [Value.ownBlock] at hk)
          have hb3 : Below w.heap.size w w2 := (zo_old HB1.out).trans (hb2.mono (by omega))
          obtain ⟨h0, h1, _⟩ := unhide H
          refine ⟨_, [(zl, zh)], rfl, ⟨some ⟨g, 0, none⟩, cap, g, rfl, fun _ => rfl, fun j p hj => ?_⟩, hb3, .inl ⟨⟨k, hlt, hkk', t⟩, rfl⟩⟩
          match j, hj with
          | 0, hj =>
            simp at hj
            subst hj
            exact ⟨b0, f0, c0, b1, f1, c1, own_cell hown rfl, own_cell hown rfl, h0.below hb3 k0, h1.below hb3 k1⟩
    · obtain rfl : n = k := by omega
      cases bi
      rotate_left
      · go_wp2
        go_ret
        have t : allB n (inP zl zh ol oh kk) = true := HI.out.symm
        exact ⟨_, [], rfl, ⟨none, 0, 0, rfl, fun h => absurd h (by simp), fun j p hj => absurd hj (by simp)⟩, zo_old HB.out, .inr (.inl ⟨t, rfl⟩)⟩
      · clear HI
        go_wp2
        go_cut [11] (fun s11 wc => ∃ q pa ca pb cb, s11 = .pointer (some ⟨q, 0, none⟩) ∧ Fresh wr q pa ca pb cb n zl zh wc)
        case first =>
          have hb := zo_old HB.out
          obtain ⟨h0, h1, h2, h3⟩ := unhide H
          have F0 := hide (h0.below hb k0)
          have F1 := hide (h1.below hb k1)
          have l0 : b0 < wr.heap.size := by omega
          have l1 : b1 < wr.heap.size := by omega
          have m3 : wr.heap.size ≠ w.heap.size := by omega
          have m4 : w.heap.size ≠ wr.heap.size := by omega
          clear h0 h1 h2 h3 hb H HB k0 k1 k2 k3 z2 z3
          go_region_held3 (fun w' => w'.cell? ⟨w.heap.size, 0, none⟩ = some (.slice (some ⟨b0, f0, none⟩) n c0) ∧ w'.cell? ⟨w.heap.size, 1, none⟩ = some (.slice (some ⟨b1, f1, none⟩) n c1))
            (go_keep)
            (first
              | (go_at_call_of 34 (Value.slice (some ⟨b0, f0, none⟩) n c0); refine (sclone b0 f0 n c0 zl _ hn0 hn ?_ ?_).mono ?_; (first | exact l0 | (simp; omega)); (first | exact F0.out | exact F0.out.allocd l0); rintro e w1 ⟨g1, cap1, rfl, hg1, hf1, hb1⟩; (first | (have hc := box_newd hb1; obtain ⟨x1, x2, x3, x4⟩ := hc) | skip);
                 have hs1 : wr.heap.size ≤ w1.heap.size := (by have hs := hb1.size; simp at hs; omega);
                 have m1 : w1.heap.size ≠ w.heap.size := (by omega);
                 have m2 : w.heap.size ≠ w1.heap.size := (by omega);
                 have G1 : Hid (FAt w1 b1 f1 n zh) := (by first | exact F1.out.below (below_undrew hb1) l1 | exact (F1.out.allocd l1).below (below_undrew hb1) (by simp; omega));
                 have y0 : w1.cell? ⟨w.heap.size, 0, none⟩ = some (.slice (some ⟨b0, f0, none⟩) n c0) := (by rw [hb1.cell (p := ⟨w.heap.size, 0, none⟩) (by show w.heap.size < _; simp; omega)]; first | exact z0 | (rw [World.cell?_drew, World.cell?_alloc_past _ _ _ (by omega)]; exact z0));
                 have y1 : w1.cell? ⟨w.heap.size, 1, none⟩ = some (.slice (some ⟨b1, f1, none⟩) n c1) := (by rw [hb1.cell (p := ⟨w.heap.size, 1, none⟩) (by show w.heap.size < _; simp; omega)]; first | exact z1 | (rw [World.cell?_drew, World.cell?_alloc_past _ _ _ (by omega)]; exact z1)))
              | (go_at_call_of 34 (Value.slice (some ⟨b1, f1, none⟩) n c1); refine (sclone b1 f1 n c1 zh _ hn0 hn ?_ ?_).mono ?_; (first | omega | (simp; omega)); (first | exact G1.out | exact G1.out.allocd (by omega)); rintro e w2 ⟨g2, cap2, rfl, hg2, hf2, hb2⟩; (first | (have hc := BoxC.carry ⟨x1, x2, x3, x4⟩ hb2; obtain ⟨x5, x6, x7, x8⟩ := hc) | (have hc := box_new hb2; obtain ⟨x5, x6, x7, x8⟩ := hc) | skip);
                 have y2 : w2.cell? ⟨w.heap.size, 0, none⟩ = some (.slice (some ⟨b0, f0, none⟩) n c0) := (by rw [hb2.cell (p := ⟨w.heap.size, 0, none⟩) (by show w.heap.size < _; first | omega | (simp; omega))]; first | exact y0 | (rw [World.cell?_alloc_past _ _ _ (by omega)]; exact y0));
                 have y3 : w2.cell? ⟨w.heap.size, 1, none⟩ = some (.slice (some ⟨b1, f1, none⟩) n c1) := (by rw [hb2.cell (p := ⟨w.heap.size, 1, none⟩) (by show w.heap.size < _; first | omega | (simp; omega))]; first | exact y1 | (rw [World.cell?_alloc_past _ _ _ (by omega)]; exact y1))))
          all_goals
            go_step
            go_step
            go_meet
          case rel => exact ⟨_, _, _, _, _, rfl, fresh_last hg1 hf1 hb1 hg2 hf2 hb2⟩
          case rel => exact ⟨_, _, _, _, _, rfl, fresh_mid hg1 hf1 hb1 hg2 hf2 hb2⟩
          case rel => exact ⟨_, _, _, _, _, rfl, fresh_first hg1 hf1 hb1 hg2 hf2 hb2⟩
        case rest =>
          obtain ⟨q, pa, ca, pb, cb, rfl, hF⟩ := hcut
          have hI : CInv (zo w (.slice (some ⟨b0, f0, none⟩) n c0) (.slice (some ⟨b1, f1, none⟩) n c1) (.slice (some ⟨b2, f2, none⟩) n c2) (.slice (some ⟨b3, f3, none⟩) n c3)) (w.heap.size + 1 + 1) q n pa ca pb cb (rlF zl ol kk 0) (rhF zh oh kk 0) (.slice none 0 0) [] wc := by
            have e1 : rlF zl ol kk 0 = zl := by funext j; simp [rlF]
            have e2 : rhF zh oh kk 0 = zh := by funext j; simp [rhF]
            have a1 := hF.la
            have a2 := hF.lb
            have a3 := hF.hq
            rw [e1, e2]
            exact ⟨HB.out.trans (hF.below.mono hsz), by omega, hF.box, hF.fa, hF.fb, hF.ab, by omega, by omega, World.ownsRow_nil _ _ _ _, fun p hp => absurd hp (by simp)⟩
          have HI := hide hI
          have y0 := zo_0 hI.below
          clear hI hF HB z0 z1 z2 z3 hsz
          go_wp2
          go_loopg [3, 73] n (fun gk v i wr => ∃ (d : Nat) (Ps : List Piece), gk + d = n ∧ i = .int .i64 d ∧ Hid (CInv (zo w (.slice (some ⟨b0, f0, none⟩) n c0) (.slice (some ⟨b1, f1, none⟩) n c1) (.slice (some ⟨b2, f2, none⟩) n c2) (.slice (some ⟨b3, f3, none⟩) n c3)) (w.heap.size + 1 + 1) q n pa ca pb cb (rlF zl ol kk d) (rhF zh oh kk d) v Ps wr) ∧ Hid (Ps.map (fun p => (p.l, p.h)) = pcs zl zh ol oh kk d))
          case atStart => exact ⟨0, [], rfl, rfl, HI, rfl⟩
          case round =>
            clear HI y0
            obtain ⟨d, Ps, hd, rfl, HI, HP⟩ := hrel
            by_cases hlt2 : d < n
            · have hI := HI.out
              have z2 := zo_2 hI.below
              have z3 := zo_3 hI.below
              have hb := zo_old hI.below
              obtain ⟨h0, h1, h2, h3⟩ := unhide H
              have g2 := (h2.below hb k2) d hlt2
              have g3 := (h3.below hb k3) d hlt2
              have r0 : wr.cell? ⟨q, 0, none⟩ = some (.slice (some ⟨pa, 0, none⟩) n ca) := by simp [World.cell?, hI.box]
              have r1 : wr.cell? ⟨q, 1, none⟩ = some (.slice (some ⟨pb, 0, none⟩) n cb) := by simp [World.cell?, hI.box]
              have e1 : rlF zl ol kk d d = zl d := by simp [rlF]
              have e2 : rhF zh oh kk d d = zh d := by simp [rhF]
              have s0 : wr.cell? ⟨pa, d, none⟩ = some (.float .f64 (zl d)) := by rw [hI.fa.cell hlt2, e1]
              have s1 : wr.cell? ⟨pb, d, none⟩ = some (.float .f64 (zh d)) := by rw [hI.fb.cell hlt2, e2]
              clear e1 e2 hb h0 h1 h2 h3 hI
              by_cases hkk : (d : Int) = kk
              · have hkk' : ((d : Int) == kk) = true := by simpa using hkk
                have q1 : rlF zl ol kk (d + 1) = rlF zl ol kk d := by
                  funext j
                  unfold rlF
                  by_cases e : j = d
                  · subst e; simp [hkk]
                  · have : (j < d + 1) = (j < d) := propext (by omega)
                    simp only [this]
                have q2 : rhF zh oh kk (d + 1) = rhF zh oh kk d := by
                  funext j
                  unfold rhF
                  by_cases e : j = d
                  · subst e; simp [hkk]
                  · have : (j < d + 1) = (j < d) := propext (by omega)
                    simp only [this]
                have q3 : pcs zl zh ol oh kk (d + 1) = pcs zl zh ol oh kk d := by simp [pcs, hkk]
                have Q1 := hide q1
                have Q2 := hide q2
                have Q3 := hide q3
                clear hkk q1 q2 q3
                go_wp2
                go_roundg (gk - 1)
                case rel => exact ⟨d + 1, Ps, by omega, by go_num, by rw [Q1.out, Q2.out]; exact HI, by show _ = _; rw [Q3.out]; exact HP.out⟩
                case measure => omega
              · have hkk' : ((d : Int) == kk) = false := by simpa using hkk
                have HK := hide hkk
                clear hkk
                obtain ⟨t1, ht1⟩ : ∃ c, (fo (zl d) (ol d) == some .lt) = c := ⟨_, rfl⟩
                go_wp2_with fail
                go_quiet (fail)
                go_upto_if 89 with fail
                have T1 := hide ht1
                clear ht1
                go_cut [3] (fun v1 wc1 => ∃ Ps1, Hid (CInv (zo w (.slice (some ⟨b0, f0, none⟩) n c0) (.slice (some ⟨b1, f1, none⟩) n c1) (.slice (some ⟨b2, f2, none⟩) n c2) (.slice (some ⟨b3, f3, none⟩) n c3)) (w.heap.size + 1 + 1) q n pa ca pb cb (rlF zl ol kk (d + 1)) (rhF zh oh kk d) v1 Ps1 wc1) ∧
                  Hid (Ps1.map (fun p => (p.l, p.h)) = pcs zl zh ol oh kk d ++ (if t1 = true then [(rlF zl ol kk d, fun i => if i = d then ol d else rhF zh oh kk d i)] else [])))
                case first =>
                  cases t1
                  rotate_left
                  · have HIW := hide (HI.out.drewN' nq)
                    clear HI r0 r1 z2 z3 g2 g3 s0 s1
                    generalize wr.drewN nq = W at HIW ⊢
                    have hI := unhide HIW
                    have r0 : W.cell? ⟨q, 0, none⟩ = some (.slice (some ⟨pa, 0, none⟩) n ca) := by simp [World.cell?, hI.box]
                    have r1 : W.cell? ⟨q, 1, none⟩ = some (.slice (some ⟨pb, 0, none⟩) n cb) := by simp [World.cell?, hI.box]
                    have F0 := hide (hI.fa.at)
                    have F1 := hide (hI.fb.at)
                    have l0 : pa < W.heap.size := hI.fa.lt
                    have l1 : pb < W.heap.size := hI.fb.lt
                    have lq : q < W.heap.size := lt_of_block hI.box
                    have lo2 : w.heap.size + 1 + 1 ≤ W.heap.size := zo_le hI.below
                    clear hI
                    go_wp2_with fail
                    go_cut [13] (fun s13 wc2 => ∃ q' pa' ca' pb' cb', s13 = .pointer (some ⟨q', 0, none⟩) ∧ Hid (Fresh W q' pa' ca' pb' cb' n (rlF zl ol kk d) (rhF zh oh kk d) wc2))
                    case first =>
                      have m3 : W.heap.size ≠ q := by omega
                      have m4 : q ≠ W.heap.size := by omega
                      clear HIW HP H k0 k1 k2 k3 hi hz0 hz1 hz2
                      go_region_held3 (fun w' => w'.cell? ⟨q, 0, none⟩ = some (.slice (some ⟨pa, 0, none⟩) n ca) ∧ w'.cell? ⟨q, 1, none⟩ = some (.slice (some ⟨pb, 0, none⟩) n cb))
                        (go_keep)
                        (first
                          | (go_at_call_of 34 (Value.slice (some ⟨pa, 0, none⟩) n ca); refine (sclone pa 0 n ca (rlF zl ol kk d) _ hn0 hn ?_ ?_).mono ?_; (first | exact l0 | (simp; omega)); (first | exact F0.out | exact F0.out.allocd l0); rintro e w1 ⟨g1, cap1, rfl, hg1, hf1, hb1⟩; (first | (have hc := box_newd hb1; obtain ⟨x1, x2, x3, x4⟩ := hc) | skip);
                             have hs1 : W.heap.size ≤ w1.heap.size := (by have hs := hb1.size; simp at hs; omega);
                             have m1 : w1.heap.size ≠ q := (by omega);
                             have m2 : q ≠ w1.heap.size := (by omega);
                             have G1 : Hid (FAt w1 pb 0 n (rhF zh oh kk d)) := (by first | exact F1.out.below (below_undrew hb1) l1 | exact (F1.out.allocd l1).below (below_undrew hb1) (by simp; omega));
                             have y0 : w1.cell? ⟨q, 0, none⟩ = some (.slice (some ⟨pa, 0, none⟩) n ca) := (by rw [hb1.cell (p := ⟨q, 0, none⟩) (by show q < _; simp; omega)]; first | exact r0 | (rw [World.cell?_drew, World.cell?_alloc_past _ _ _ (by omega)]; exact r0));
                             have y1 : w1.cell? ⟨q, 1, none⟩ = some (.slice (some ⟨pb, 0, none⟩) n cb) := (by rw [hb1.cell (p := ⟨q, 1, none⟩) (by show q < _; simp; omega)]; first | exact r1 | (rw [World.cell?_drew, World.cell?_alloc_past _ _ _ (by omega)]; exact r1)))
                          | (go_at_call_of 34 (Value.slice (some ⟨pb, 0, none⟩) n cb); refine (sclone pb 0 n cb (rhF zh oh kk d) _ hn0 hn ?_ ?_).mono ?_; (first | omega | (simp; omega)); (first | exact G1.out | exact G1.out.allocd (by omega)); rintro e w2 ⟨g2, cap2, rfl, hg2, hf2, hb2⟩; (first | (have hc := BoxC.carry ⟨x1, x2, x3, x4⟩ hb2; obtain ⟨x5, x6, x7, x8⟩ := hc) | (have hc := box_new hb2; obtain ⟨x5, x6, x7, x8⟩ := hc) | skip);
                             have y2 : w2.cell? ⟨q, 0, none⟩ = some (.slice (some ⟨pa, 0, none⟩) n ca) := (by rw [hb2.cell (p := ⟨q, 0, none⟩) (by show q < _; first | omega | (simp; omega))]; first | exact y0 | (rw [World.cell?_alloc_past _ _ _ (by omega)]; exact y0));
                             have y3 : w2.cell? ⟨q, 1, none⟩ = some (.slice (some ⟨pb, 0, none⟩) n cb) := (by rw [hb2.cell (p := ⟨q, 1, none⟩) (by show q < _; first | omega | (simp; omega))]; first | exact y1 | (rw [World.cell?_alloc_past _ _ _ (by omega)]; exact y1))))
                      all_goals
                        go_step
                        go_step
                        go_meet
                      case rel => exact ⟨_, _, _, _, _, rfl, fresh_last hg1 hf1 hb1 hg2 hf2 hb2⟩
                      case rel => exact ⟨_, _, _, _, _, rfl, fresh_mid hg1 hf1 hb1 hg2 hf2 hb2⟩
                      case rel => exact ⟨_, _, _, _, _, rfl, fresh_first hg1 hf1 hb1 hg2 hf2 hb2⟩
                    case rest =>
                      obtain ⟨q', pa', ca', pb', cb', rfl, HF⟩ := hcut
                      have hF := unhide HF
                      have hI := (unhide HIW).mono hF.below
                      have z2 := zo_2 hI.below
                      have hb := zo_old hI.below
                      have lo3 : w.heap.size + 1 + 1 ≤ wc.heap.size := zo_le hI.below
                      have g2 := ((unhide H).2.2.1.below hb k2) d hlt2
                      have x1 : wc.cell? ⟨q', 1, none⟩ = some (.slice (some ⟨pb', 0, none⟩) n cb') := by simp [World.cell?, hF.box]
                      have e2 : rhF zh oh kk d d = zh d := by simp [rhF]
                      have s1 : wc.cell? ⟨pb', d, none⟩ = some (.float .f64 (zh d)) := by rw [hF.fb.cell hlt2, e2]
                      have t1 : wc.frozen? ⟨pb', d, none⟩ = false := hF.fb.frozen
                      clear hF hI hb e2 r0 r1 F0 F1
                      go_wp2_with fail
                      go_cut [] (fun w3 => Hid (Fresh W q' pa' ca' pb' cb' n (rlF zl ol kk d) (fun i => if i = d then ol d else rhF zh oh kk d i) w3))
                      case first =>
                        go_region
                        go_step
                        go_step
                        go_meet
                        case rel => exact ((unhide HF).setHi hlt2).drew
                      case rest =>
                        clear HF z2 g2 x1 s1 t1 lo3
                        have HF := hcut
                        clear hcut
                        have hF := unhide HF
                        have x0 : wc.cell? ⟨q', 0, none⟩ = some (.slice (some ⟨pa', 0, none⟩) n ca') := by simp [World.cell?, hF.box]
                        have x1 : wc.cell? ⟨q', 1, none⟩ = some (.slice (some ⟨pb', 0, none⟩) n cb') := by simp [World.cell?, hF.box]
                        have hI := (unhide HIW).mono hF.below
                        have lenP : Ps.length ≤ 2 * d := by have h := congrArg List.length HP.out; rw [List.length_map] at h; have := pcs_len zl zh ol oh kk d; omega
                        have hown := hide ((hI.mono ((Below.refl _ _).alloc (Nat.le_refl _) (.cells #[.slice (some ⟨pa', 0, none⟩) n ca', .slice (some ⟨pb', 0, none⟩) n cb'] 26))).own)
                        have lq2 : q + 1 ≤ wc.heap.size := by have := hF.below.size; omega
                        clear hF hI
                        go_wp2_with (at_builtin; refine wpList_append_lies _ rfl _ _ _ rfl (q + 1) 26 i0 (.agg #[.slice none 0 0, .slice none 0 0]) 2 48 Try.underlying35 hi hz0 hz1 hz2 rfl (by omega) _ Ps.length (pcells n Ps) (by rfl) (unhide hown) ⟨wc.heap.size, 0, none⟩ 1 1 [.slice (some ⟨pa', 0, none⟩) n ca', .slice (some ⟨pb', 0, none⟩) n cb'] (by rfl) ?d1 ?d2 ?d3 (by omega) ?d4 ?d5 ?d6 (wc.heap.size + 1) (by simp) ?_)
                        case d1 => rfl
                        case d2 => exact news_two wc _ _
                        case d3 => intro u hu; simp at hu; rcases hu with rfl | rfl <;> rfl
                        case d4 => unfold maxLen; omega
                        case d5 => omega
                        case d6 => simp; omega
                        intro g cap w2 ho hgrow hat hlt3
                        have hI2 := hide ((unhide HIW).pushFresh (unhide HF) hgrow ho)
                        clear ho hgrow hat hlt3 hown HF x0 x1
                        have hI := unhide hI2
                        have z2 := zo_2 hI.below
                        have hb := zo_old hI.below
                        have g2 := ((unhide H).2.2.1.below hb k2) d hlt2
                        have r0 : w2.cell? ⟨q, 0, none⟩ = some (.slice (some ⟨pa, 0, none⟩) n ca) := by simp [World.cell?, hI.box]
                        have e1 : rlF zl ol kk d d = zl d := by simp [rlF]
                        have s0 : w2.cell? ⟨pa, d, none⟩ = some (.float .f64 (zl d)) := by rw [hI.fa.cell hlt2, e1]
                        have t1 : w2.frozen? ⟨pa, d, none⟩ = false := hI.fa.frozen
                        have Q1 := hide (rlF_succ_lt HK.out T1.out)
                        clear hI hb e1
                        go_wp2_with fail
                        go_region
                        repeat go_step
                        go_meet
                        case rel => exact ⟨_, by rw [Q1.out]; exact ((unhide hI2).setLo hlt2).drew, by show _ = _; rw [List.map_append, HP.out]; rfl⟩
                  · have t := T1.out
                    have q1 : rlF zl ol kk (d + 1) = rlF zl ol kk d := by
                      funext j
                      unfold rlF
                      by_cases e : j = d
                      · subst e; simp [t]
                      · have : (j < d + 1) = (j < d) := propext (by omega)
                        simp only [this]
                    have Q1 := hide q1
                    clear q1 t
                    go_wp2_with fail
                    go_meet
                    case rel => exact ⟨Ps, by rw [Q1.out]; exact HI.out.drewN' nq, by show _ = _; rw [HP.out]; simp⟩
                case rest =>
                  clear HI HP r0 r1 z2 z3 g2 g3 s0 s1
                  obtain ⟨Ps1, HI, HP⟩ := hcut
                  have hI := HI.out
                  have z3 := zo_3 hI.below
                  have hb := zo_old hI.below
                  have g3 := ((unhide H).2.2.2.below hb k3) d hlt2
                  have r1 : wc.cell? ⟨q, 1, none⟩ = some (.slice (some ⟨pb, 0, none⟩) n cb) := by simp [World.cell?, hI.box]
                  have e2 : rhF zh oh kk d d = zh d := by simp [rhF]
                  have s1 : wc.cell? ⟨pb, d, none⟩ = some (.float .f64 (zh d)) := by rw [hI.fb.cell hlt2, e2]
                  clear e2 hb hI
                  obtain ⟨t2, ht2⟩ : ∃ c, (fo (zh d) (oh d) == some .gt) = c := ⟨_, rfl⟩
                  have lenP : Hid (Ps1.length ≤ 2 * d + 1) := by
                    have h := congrArg List.length HP.out
                    rw [List.length_map, List.length_append] at h
                    have := pcs_len zl zh ol oh kk d
                    have h2 : (if t1 = true then [(rlF zl ol kk d, fun i => if i = d then ol d else rhF zh oh kk d i)] else []).length ≤ 1 := by split <;> simp
                    show Ps1.length ≤ 2 * d + 1
                    omega
                  go_wp2_with fail
                  go_quiet (fail)
                  have T2 := hide ht2
                  clear ht2
                  have HPC := hide (pcs_step (zl := zl) (zh := zh) (ol := ol) (oh := oh) HK.out T1.out T2.out)
                  cases t2
                  · have Q2 := hide (rhF_succ_le (kk := kk) T2.out)
                    go_wp2
                    go_roundg (gk - 1)
                    case rel => exact ⟨d + 1, Ps1, by omega, by go_num, by rw [Q2.out]; exact HI.out.drewN' _, by show _ = _; rw [HPC.out, HP.out]; simp⟩
                    case measure => omega
                  · have HIW := hide (HI.out.drewN' nq)
                    clear HI r1 z3 g3 s1
                    generalize wc.drewN nq = W at HIW ⊢
                    have hI := unhide HIW
                    have r0 : W.cell? ⟨q, 0, none⟩ = some (.slice (some ⟨pa, 0, none⟩) n ca) := by simp [World.cell?, hI.box]
                    have r1 : W.cell? ⟨q, 1, none⟩ = some (.slice (some ⟨pb, 0, none⟩) n cb) := by simp [World.cell?, hI.box]
                    have F0 := hide (hI.fa.at)
                    have F1 := hide (hI.fb.at)
                    have l0 : pa < W.heap.size := hI.fa.lt
                    have l1 : pb < W.heap.size := hI.fb.lt
                    have lq : q < W.heap.size := lt_of_block hI.box
                    have lo2 : w.heap.size + 1 + 1 ≤ W.heap.size := zo_le hI.below
                    clear hI
                    go_wp2_with fail
                    go_cut [14] (fun s14 wc2 => ∃ q' pa' ca' pb' cb', s14 = .pointer (some ⟨q', 0, none⟩) ∧ Hid (Fresh W q' pa' ca' pb' cb' n (rlF zl ol kk (d + 1)) (rhF zh oh kk d) wc2))
                    case first =>
                      have m3 : W.heap.size ≠ q := by omega
                      have m4 : q ≠ W.heap.size := by omega
                      clear HIW HP H k0 k1 k2 k3 hi hz0 hz1 hz2 HPC lenP
                      go_region_held3 (fun w' => w'.cell? ⟨q, 0, none⟩ = some (.slice (some ⟨pa, 0, none⟩) n ca) ∧ w'.cell? ⟨q, 1, none⟩ = some (.slice (some ⟨pb, 0, none⟩) n cb))
                        (go_keep)
                        (first
                          | (go_at_call_of 34 (Value.slice (some ⟨pa, 0, none⟩) n ca); refine (sclone pa 0 n ca (rlF zl ol kk (d + 1)) _ hn0 hn ?_ ?_).mono ?_; (first | exact l0 | (simp; omega)); (first | exact F0.out | exact F0.out.allocd l0); rintro e w1 ⟨g1, cap1, rfl, hg1, hf1, hb1⟩; (first | (have hc := box_newd hb1; obtain ⟨x1, x2, x3, x4⟩ := hc) | skip);
                             have hs1 : W.heap.size ≤ w1.heap.size := (by have hs := hb1.size; simp at hs; omega);
                             have m1 : w1.heap.size ≠ q := (by omega);
                             have m2 : q ≠ w1.heap.size := (by omega);
                             have G1 : Hid (FAt w1 pb 0 n (rhF zh oh kk d)) := (by first | exact F1.out.below (below_undrew hb1) l1 | exact (F1.out.allocd l1).below (below_undrew hb1) (by simp; omega));
                             have y0 : w1.cell? ⟨q, 0, none⟩ = some (.slice (some ⟨pa, 0, none⟩) n ca) := (by rw [hb1.cell (p := ⟨q, 0, none⟩) (by show q < _; simp; omega)]; first | exact r0 | (rw [World.cell?_drew, World.cell?_alloc_past _ _ _ (by omega)]; exact r0));
                             have y1 : w1.cell? ⟨q, 1, none⟩ = some (.slice (some ⟨pb, 0, none⟩) n cb) := (by rw [hb1.cell (p := ⟨q, 1, none⟩) (by show q < _; simp; omega)]; first | exact r1 | (rw [World.cell?_drew, World.cell?_alloc_past _ _ _ (by omega)]; exact r1)))
                          | (go_at_call_of 34 (Value.slice (some ⟨pb, 0, none⟩) n cb); refine (sclone pb 0 n cb (rhF zh oh kk d) _ hn0 hn ?_ ?_).mono ?_; (first | omega | (simp; omega)); (first | exact G1.out | exact G1.out.allocd (by omega)); rintro e w2 ⟨g2, cap2, rfl, hg2, hf2, hb2⟩; (first | (have hc := BoxC.carry ⟨x1, x2, x3, x4⟩ hb2; obtain ⟨x5, x6, x7, x8⟩ := hc) | (have hc := box_new hb2; obtain ⟨x5, x6, x7, x8⟩ := hc) | skip);
                             have y2 : w2.cell? ⟨q, 0, none⟩ = some (.slice (some ⟨pa, 0, none⟩) n ca) := (by rw [hb2.cell (p := ⟨q, 0, none⟩) (by show q < _; first | omega | (simp; omega))]; first | exact y0 | (rw [World.cell?_alloc_past _ _ _ (by omega)]; exact y0));
                             have y3 : w2.cell? ⟨q, 1, none⟩ = some (.slice (some ⟨pb, 0, none⟩) n cb) := (by rw [hb2.cell (p := ⟨q, 1, none⟩) (by show q < _; first | omega | (simp; omega))]; first | exact y1 | (rw [World.cell?_alloc_past _ _ _ (by omega)]; exact y1))))
                      all_goals
                        go_step
                        go_step
                        go_meet
                      case rel => exact ⟨_, _, _, _, _, rfl, fresh_last hg1 hf1 hb1 hg2 hf2 hb2⟩
                      case rel => exact ⟨_, _, _, _, _, rfl, fresh_mid hg1 hf1 hb1 hg2 hf2 hb2⟩
                      case rel => exact ⟨_, _, _, _, _, rfl, fresh_first hg1 hf1 hb1 hg2 hf2 hb2⟩
                    case rest =>
                      obtain ⟨q', pa', ca', pb', cb', rfl, HF⟩ := hcut
                      have hF := unhide HF
                      have hI := (unhide HIW).mono hF.below
                      have z3 := zo_3 hI.below
                      have hb := zo_old hI.below
                      have lo3 : w.heap.size + 1 + 1 ≤ wc.heap.size := zo_le hI.below
                      have g3 := ((unhide H).2.2.2.below hb k3) d hlt2
                      have x0 : wc.cell? ⟨q', 0, none⟩ = some (.slice (some ⟨pa', 0, none⟩) n ca') := by simp [World.cell?, hF.box]
                      have s0 := hF.fa.cell hlt2
                      have tf : wc.frozen? ⟨pa', d, none⟩ = false := hF.fa.frozen
                      clear hF hI hb r0 r1 F0 F1
                      go_wp2_with fail
                      go_cut [] (fun w3 => Hid (Fresh W q' pa' ca' pb' cb' n (fun i => if i = d then oh d else rlF zl ol kk (d + 1) i) (rhF zh oh kk d) w3))
                      case first =>
                        go_region
                        go_step
                        go_step
                        go_meet
                        case rel => exact ((unhide HF).setLo hlt2).drew
                      case rest =>
                        clear HF z3 g3 x0 s0 tf lo3
                        have HF := hcut
                        clear hcut
                        have hF := unhide HF
                        have x0 : wc.cell? ⟨q', 0, none⟩ = some (.slice (some ⟨pa', 0, none⟩) n ca') := by simp [World.cell?, hF.box]
                        have x1 : wc.cell? ⟨q', 1, none⟩ = some (.slice (some ⟨pb', 0, none⟩) n cb') := by simp [World.cell?, hF.box]
                        have hI := (unhide HIW).mono hF.below
                        have lenQ := lenP.out
                        have hown := hide ((hI.mono ((Below.refl _ _).alloc (Nat.le_refl _) (.cells #[.slice (some ⟨pa', 0, none⟩) n ca', .slice (some ⟨pb', 0, none⟩) n cb'] 26))).own)
                        have lq2 : q + 1 ≤ wc.heap.size := by have := hF.below.size; omega
                        clear hF hI
                        go_wp2_with (at_builtin; refine wpList_append_lies _ rfl _ _ _ rfl (q + 1) 26 i0 (.agg #[.slice none 0 0, .slice none 0 0]) 2 48 Try.underlying35 hi hz0 hz1 hz2 rfl (by omega) _ Ps1.length (pcells n Ps1) (by rfl) (unhide hown) ⟨wc.heap.size, 0, none⟩ 1 1 [.slice (some ⟨pa', 0, none⟩) n ca', .slice (some ⟨pb', 0, none⟩) n cb'] (by rfl) ?e1 ?e2 ?e3 (by omega) ?e4 ?e5 ?e6 (wc.heap.size + 1) (by simp) ?_)
                        case e1 => rfl
                        case e2 => exact news_two wc _ _
                        case e3 => intro u hu; simp at hu; rcases hu with rfl | rfl <;> rfl
                        case e4 => unfold maxLen; omega
                        case e5 => omega
                        case e6 => simp; omega
                        intro g cap w2 ho hgrow hat hlt3
                        have hI2 := hide ((unhide HIW).pushFresh (unhide HF) hgrow ho)
                        clear ho hgrow hat hlt3 hown HF x0 x1
                        have hI := unhide hI2
                        have z3 := zo_3 hI.below
                        have hb := zo_old hI.below
                        have g3 := ((unhide H).2.2.2.below hb k3) d hlt2
                        have r1 : w2.cell? ⟨q, 1, none⟩ = some (.slice (some ⟨pb, 0, none⟩) n cb) := by simp [World.cell?, hI.box]
                        have e2 : rhF zh oh kk d d = zh d := by simp [rhF]
                        have s1 : w2.cell? ⟨pb, d, none⟩ = some (.float .f64 (zh d)) := by rw [hI.fb.cell hlt2, e2]
                        have tf : w2.frozen? ⟨pb, d, none⟩ = false := hI.fb.frozen
                        have Q2 := hide (rhF_succ_gt HK.out T2.out)
                        clear hI hb e2
                        go_wp2_with fail
                        go_region
                        go_wp2
                        go_roundg (gk - 1)
                        case rel => exact ⟨d + 1, _, by omega, by go_num, by rw [Q2.out]; exact ((unhide hI2).setHi hlt2).drew, by show _ = _; rw [List.map_append, HP.out, HPC.out]; rfl⟩
                        case measure => omega
            · obtain rfl : d = n := by omega
              go_wp2
              go_ret
              have hI := HI.out
              refine ⟨_, Ps.map (fun p => (p.l, p.h)), ?_, pieces_of hI, zo_old hI.below, .inr (.inr ⟨HO.out, HP.out⟩)⟩
              rfl
end Go.Proofs.Qxb6600053a
