import Derived.Test.Qxb6600053aCb
namespace Go.Proofs.Qxb6600053a
open Go.RowKit

/-- a piece: where its two rows lie, and what they hold -/
structure Piece where
  a : Nat
  ca : Nat
  b : Nat
  cb : Nat
  l : Nat → Nat
  h : Nat → Nat

def pcell (n : Nat) (p : Piece) : List Value := [.slice (some ⟨p.a, 0, none⟩) n p.ca, .slice (some ⟨p.b, 0, none⟩) n p.cb]
def pcells (n : Nat) (Ps : List Piece) : List Value := Ps.flatMap (pcell n)
theorem pcells_length (n : Nat) : ∀ Ps : List Piece, (pcells n Ps).length = Ps.length * 2
  | [] => rfl
  | p :: Ps => by
    have := pcells_length n Ps
    simp [pcells, pcell] at *
    omega
theorem pcells_snoc (n : Nat) (Ps : List Piece) (p : Piece) : pcells n (Ps ++ [p]) = pcells n Ps ++ pcell n p := by
  simp [pcells]

/-- cut's own memory in the second loop -/
structure CInv (W0 : World) (B R n ra ca rb cb : Nat) (rl rh : Nat → Nat) (v : Value) (Ps : List Piece) (wr : World) : Prop where
  below : Below B W0 wr
  hR : B ≤ R
  box : wr.heap[R]? = some (.cells #[.slice (some ⟨ra, 0, none⟩) n ca, .slice (some ⟨rb, 0, none⟩) n cb] 26 (0, 0))
  fa : FB wr ra n rl
  fb : FB wr rb n rh
  ab : ra ≠ rb
  la : B ≤ ra
  lb : B ≤ rb
  own : wr.ownsRow (R + 1) 26 2 v Ps.length (pcells n Ps)
  ps : ∀ p, p ∈ Ps → FB wr p.a n p.l ∧ FB wr p.b n p.h ∧ p.a ≠ ra ∧ p.a ≠ rb ∧ p.b ≠ ra ∧ p.b ≠ rb

theorem lt_of_block {w : World} {b : Nat} {o : Obj} (h : w.heap[b]? = some o) : b < w.heap.size := by
  by_cases hb : b < w.heap.size
  · exact hb
  · rw [Array.getElem?_eq_none (by omega)] at h; cases h

theorem FAt.lt' {w : World} {b f n : Nat} {x : Nat → Nat} (h : FAt w b f n x) (hn : 0 < n) : b < w.heap.size := by
  have h1 := h 0 hn
  by_cases hb : b < w.heap.size
  · exact hb
  · unfold World.cell? at h1
    have : w.heap[b]? = none := by simp; omega
    simp [this] at h1

theorem own_of_block {w w' : World} {base n : Nat} {v : Value} {xs : List Value} (h : w.ownsRow base 26 2 v n xs) (hb : ∀ g, v.ownBlock = some g → w'.heap[g]? = w.heap[g]?) : w'.ownsRow base 26 2 v n xs := by
  refine ⟨h.1, ?_⟩
  rcases h.2 with h0 | ⟨g, cap, cur, hv, h1, h2, h3⟩
  · exact .inl h0
  · exact .inr ⟨g, cap, cur, hv, h1, by rw [hb g (by rw [hv]; rfl)]; exact h2, h3⟩
theorem own_lt {w : World} {base n g : Nat} {v : Value} {xs : List Value} (h : w.ownsRow base 26 2 v n xs) (hg : v.ownBlock = some g) : base ≤ g ∧ g < w.heap.size ∧ ∃ cur, w.heap[g]? = some (.cells cur 26 (0, 0)) := by
  rcases h.2 with ⟨h0, _⟩ | ⟨g', cap, cur, hv, h1, h2, h3⟩
  · rw [h0] at hg; simp [Value.ownBlock] at hg
  · rw [hv] at hg
    simp [Value.ownBlock] at hg
    subst hg
    exact ⟨h1, lt_of_block h2, cur, h2⟩
theorem FB.ne26 {w : World} {b n g : Nat} {x : Nat → Nat} {cur : Array Value} (h : FB w b n x) (hg : w.heap[g]? = some (.cells cur 26 (0, 0))) : g ≠ b := by
  intro e
  subst e
  obtain ⟨cur', h1, _⟩ := h
  rw [hg] at h1
  simp at h1

section
variable {W0 : World} {B R n ra ca rb cb : Nat} {rl rh : Nat → Nat} {v : Value} {Ps : List Piece} {wr w' : World}

/-- nothing old has turned -/
theorem CInv.mono (h : CInv W0 B R n ra ca rb cb rl rh v Ps wr) (hb : Below wr.heap.size wr w') : CInv W0 B R n ra ca rb cb rl rh v Ps w' := by
  have hBs : B ≤ wr.heap.size := by
    have h1 := lt_of_block h.box
    have h2 := h.hR
    omega
  refine ⟨h.below.trans (hb.mono hBs), h.hR, ?_, h.fa.below hb h.fa.lt, h.fb.below hb h.fb.lt, h.ab, h.la, h.lb, ?_, fun p hp => ?_⟩
  · rw [hb.block R (lt_of_block h.box)]; exact h.box
  · exact own_of_block h.own fun g hg => hb.block g (own_lt h.own hg).2.1
  · obtain ⟨h1, h2, h3⟩ := h.ps p hp
    exact ⟨h1.below hb h1.lt, h2.below hb h2.lt, h3⟩

theorem CInv.drewN' (h : CInv W0 B R n ra ca rb cb rl rh v Ps wr) (m : Nat) : CInv W0 B R n ra ca rb cb rl rh v Ps (wr.drewN m) := h.mono ⟨rfl, rfl, rfl, Nat.le_refl _, fun _ _ => rfl⟩
/-- rest.Lo[k] = x -/
theorem CInv.setLo (h : CInv W0 B R n ra ca rb cb rl rh v Ps wr) {k x : Nat} (hk : k < n) :
    CInv W0 B R n ra ca rb cb (fun i => if i = k then x else rl i) rh v Ps (wr.setCell ⟨ra, k, none⟩ (.float .f64 x)) := by
  have la := h.la
  refine ⟨h.below.setCell (by show B ≤ ra; omega) _, h.hR, ?_, h.fa.set hk, h.fb.setOther h.ab, h.ab, h.la, h.lb, ?_, fun p hp => ?_⟩
  · rw [heap_setCell_other wr ⟨ra, k, none⟩ R _ (h.fa.ne26 h.box)]; exact h.box
  · refine own_of_block h.own fun g hg => ?_
    obtain ⟨_, _, cur, hc⟩ := own_lt h.own hg
    exact heap_setCell_other wr ⟨ra, k, none⟩ g _ (h.fa.ne26 hc)
  · obtain ⟨h1, h2, h3, h4, h5, h6⟩ := h.ps p hp
    exact ⟨h1.setOther (fun e => h3 e.symm), h2.setOther (fun e => h5 e.symm), h3, h4, h5, h6⟩
/-- rest.Hi[k] = x -/
theorem CInv.setHi (h : CInv W0 B R n ra ca rb cb rl rh v Ps wr) {k x : Nat} (hk : k < n) :
    CInv W0 B R n ra ca rb cb rl (fun i => if i = k then x else rh i) v Ps (wr.setCell ⟨rb, k, none⟩ (.float .f64 x)) := by
  have lb := h.lb
  refine ⟨h.below.setCell (by show B ≤ rb; omega) _, h.hR, ?_, h.fa.setOther (fun e => h.ab e.symm), h.fb.set hk, h.ab, h.la, h.lb, ?_, fun p hp => ?_⟩
  · rw [heap_setCell_other wr ⟨rb, k, none⟩ R _ (h.fb.ne26 h.box)]; exact h.box
  · refine own_of_block h.own fun g hg => ?_
    obtain ⟨_, _, cur, hc⟩ := own_lt h.own hg
    exact heap_setCell_other wr ⟨rb, k, none⟩ g _ (h.fb.ne26 hc)
  · obtain ⟨h1, h2, h3, h4, h5, h6⟩ := h.ps p hp
    exact ⟨h1.setOther (fun e => h4 e.symm), h2.setOther (fun e => h6 e.symm), h3, h4, h5, h6⟩

/-- a piece is appended -/
theorem CInv.push (h : CInv W0 B R n ra ca rb cb rl rh v Ps wr) {p : Piece} {v' : Value} (hg : wr.grownBy w' v.ownBlock) (ho : w'.ownsRow (R + 1) 26 2 v' (Ps.length + 1) (pcells n Ps ++ pcell n p))
    (h1 : FB wr p.a n p.l) (h2 : FB wr p.b n p.h) (h3 : p.a ≠ ra) (h4 : p.a ≠ rb) (h5 : p.b ≠ ra) (h6 : p.b ≠ rb) : CInv W0 B R n ra ca rb cb rl rh v' (Ps ++ [p]) w' := by
  have hBs : B ≤ wr.heap.size := by
    have e1 := lt_of_block h.box
    have e2 := h.hR
    omega
  have far : ∀ {b : Nat} {x : Nat → Nat}, FB wr b n x → FB w' b n x := fun hf => hf.grown hg (fun e => by
    obtain ⟨_, _, cur, hc⟩ := own_lt h.own e.symm
    exact hf.ne26 hc rfl)
  refine ⟨h.below.grown hg hBs (fun k hk => ?_), h.hR, ?_, far h.fa, far h.fb, h.ab, h.la, h.lb, ?_, fun q hq => ?_⟩
  · have := (own_lt h.own hk).1
    have := h.hR
    omega
  · rw [hg.block R (lt_of_block h.box) (fun e => by have := (own_lt h.own e.symm).1; omega)]; exact h.box
  · rw [pcells_snoc]; simpa using ho
  · rcases List.mem_append.1 hq with hq | hq
    · obtain ⟨e1, e2, e3⟩ := h.ps q hq
      exact ⟨far e1, far e2, e3⟩
    · simp at hq
      subst hq
      exact ⟨far h1, far h2, h3, h4, h5, h6⟩
end

/-- a zone of two new rows, in a new box -/
structure Fresh (w0 : World) (q pa ca pb cb n : Nat) (l h : Nat → Nat) (w1 : World) : Prop where
  below : Below w0.heap.size w0 w1
  hq : w0.heap.size ≤ q
  box : w1.heap[q]? = some (.cells #[.slice (some ⟨pa, 0, none⟩) n ca, .slice (some ⟨pb, 0, none⟩) n cb] 26 (0, 0))
  fa : FB w1 pa n l
  fb : FB w1 pb n h
  la : w0.heap.size ≤ pa
  lb : w0.heap.size ≤ pb
  ab : pa ≠ pb

theorem below_undrew {B : Nat} {a b : World} (h : Below B a.drew b) : Below B a b := ⟨h.os, h.tape, h.output, h.size, h.block⟩

/-- the box last -/
theorem fresh_last {w0 w1 w2 : World} {g1 cap1 g2 cap2 n : Nat} {l h : Nat → Nat} (hg1 : w0.drew.heap.size ≤ g1) (hf1 : FB w1 g1 n l) (hb1 : Below w0.drew.heap.size w0.drew w1) (hg2 : w1.heap.size ≤ g2) (hf2 : FB w2 g2 n h) (hb2 : Below w1.heap.size w1 w2) :
    Fresh w0 w2.heap.size g1 cap1 g2 cap2 n l h (w2.alloc (.cells #[.slice (some ⟨g1, 0, none⟩) n cap1, .slice (some ⟨g2, 0, none⟩) n cap2] 26)) := by
  have hb1' : Below w0.heap.size w0 w1 := below_undrew hb1
  have hg1' : w0.heap.size ≤ g1 := hg1
  have s1 := hb1'.size
  have s2 := hb2.size
  have e1 := hf1.lt
  have hf1' : FB w2 g1 n l := hf1.below hb2 e1
  exact ⟨(hb1'.trans (hb2.mono s1)).alloc (by omega) _, by omega, heap_alloc_new _ _, hf1'.alloc _, hf2.alloc _, hg1', by omega, by omega⟩

/-- the box is there, empty, ahead of the store -/
theorem fresh_box {w0 w2 : World} {q g1 cap1 g2 cap2 n : Nat} {l h : Nat → Nat} (hb : Below w0.heap.size w0 w2) (hq : w0.heap.size ≤ q) (hbq : w2.heap[q]? = some (.cells #[.slice none 0 0, .slice none 0 0] 26 (0, 0)))
    (hg1 : w0.heap.size ≤ g1) (hg2 : w0.heap.size ≤ g2) (hf1 : FB w2 g1 n l) (hf2 : FB w2 g2 n h) (ab : g1 ≠ g2) :
    Fresh w0 q g1 cap1 g2 cap2 n l h ((w2.setCell ⟨q, 0, none⟩ (.slice (some ⟨g1, 0, none⟩) n cap1)).setCell ⟨q, 1, none⟩ (.slice (some ⟨g2, 0, none⟩) n cap2)) := by
  have n1 := hf1.ne26 hbq
  have n2 := hf2.ne26 hbq
  refine ⟨(hb.setCell (by exact hq) _).setCell (by exact hq) _, hq, ?_, (hf1.setOther n1).setOther n1, (hf2.setOther n2).setOther n2, hg1, hg2, ab⟩
  have h1 := heap_setCell_same w2 q 0 _ 26 (.slice (some ⟨g1, 0, none⟩) n cap1) hbq
  have h2 := heap_setCell_same _ q 1 _ 26 (.slice (some ⟨g2, 0, none⟩) n cap2) h1
  rw [h2]
  rfl

/-- the box between the calls -/
theorem fresh_mid {w0 w1 w2 : World} {g1 cap1 g2 cap2 n : Nat} {l h : Nat → Nat} (hg1 : w0.drew.heap.size ≤ g1) (hf1 : FB w1 g1 n l) (hb1 : Below w0.drew.heap.size w0.drew w1)
    (hg2 : (w1.alloc (.cells #[.slice none 0 0, .slice none 0 0] 26)).heap.size ≤ g2) (hf2 : FB w2 g2 n h) (hb2 : Below (w1.alloc (.cells #[.slice none 0 0, .slice none 0 0] 26)).heap.size (w1.alloc (.cells #[.slice none 0 0, .slice none 0 0] 26)) w2) :
    Fresh w0 w1.heap.size g1 cap1 g2 cap2 n l h ((w2.setCell ⟨w1.heap.size, 0, none⟩ (.slice (some ⟨g1, 0, none⟩) n cap1)).setCell ⟨w1.heap.size, 1, none⟩ (.slice (some ⟨g2, 0, none⟩) n cap2)) := by
  have hb1' : Below w0.heap.size w0 w1 := below_undrew hb1
  have hg1' : w0.heap.size ≤ g1 := hg1
  have s1 := hb1'.size
  have sz : (w1.alloc (.cells #[.slice none 0 0, .slice none 0 0] 26)).heap.size = w1.heap.size + 1 := by simp
  rw [sz] at hg2 hb2
  have e1 := hf1.lt
  refine fresh_box ((hb1'.alloc (by omega) _).trans (hb2.mono (by omega))) (by omega) ?_ hg1' (by omega) ((hf1.alloc _).below hb2 (by omega)) hf2 (by omega)
  rw [hb2.block _ (by omega)]
  exact heap_alloc_new _ _

/-- the box first -/
theorem fresh_first {w0 w1 w2 : World} {g1 cap1 g2 cap2 n : Nat} {l h : Nat → Nat} (hg1 : (w0.alloc (.cells #[.slice none 0 0, .slice none 0 0] 26)).drew.heap.size ≤ g1) (hf1 : FB w1 g1 n l)
    (hb1 : Below (w0.alloc (.cells #[.slice none 0 0, .slice none 0 0] 26)).drew.heap.size (w0.alloc (.cells #[.slice none 0 0, .slice none 0 0] 26)).drew w1) (hg2 : w1.heap.size ≤ g2) (hf2 : FB w2 g2 n h) (hb2 : Below w1.heap.size w1 w2) :
    Fresh w0 w0.heap.size g1 cap1 g2 cap2 n l h ((w2.setCell ⟨w0.heap.size, 0, none⟩ (.slice (some ⟨g1, 0, none⟩) n cap1)).setCell ⟨w0.heap.size, 1, none⟩ (.slice (some ⟨g2, 0, none⟩) n cap2)) := by
  have sz : (w0.alloc (.cells #[.slice none 0 0, .slice none 0 0] 26)).drew.heap.size = w0.heap.size + 1 := by simp
  have hb1' := below_undrew hb1
  rw [sz] at hg1 hb1'
  have s1 := hb1'.size
  simp at s1
  have e1 := hf1.lt
  have hall : Below w0.heap.size w0 w1 := ((Below.refl _ _).alloc (Nat.le_refl _) _).trans (hb1'.mono (by omega))
  refine fresh_box (hall.trans (hb2.mono (by omega))) (Nat.le_refl _) ?_ (by omega) (by omega) (hf1.below hb2 e1) hf2 (by omega)
  rw [hb2.block _ (by omega), hb1'.block _ (by omega)]
  exact heap_alloc_new _ _

theorem Fresh.setHi {w0 w1 : World} {q pa ca pb cb n k x : Nat} {l h : Nat → Nat} (hf : Fresh w0 q pa ca pb cb n l h w1) (hk : k < n) : Fresh w0 q pa ca pb cb n l (fun i => if i = k then x else h i) (w1.setCell ⟨pb, k, none⟩ (.float .f64 x)) :=
  ⟨hf.below.setCell (by exact hf.lb) _, hf.hq, by rw [heap_setCell_other w1 ⟨pb, k, none⟩ q _ (hf.fb.ne26 hf.box)]; exact hf.box, hf.fa.setOther (fun e => hf.ab e.symm), hf.fb.set hk, hf.la, hf.lb, hf.ab⟩
theorem Fresh.setLo {w0 w1 : World} {q pa ca pb cb n k x : Nat} {l h : Nat → Nat} (hf : Fresh w0 q pa ca pb cb n l h w1) (hk : k < n) : Fresh w0 q pa ca pb cb n (fun i => if i = k then x else l i) h (w1.setCell ⟨pa, k, none⟩ (.float .f64 x)) :=
  ⟨hf.below.setCell (by exact hf.la) _, hf.hq, by rw [heap_setCell_other w1 ⟨pa, k, none⟩ q _ (hf.fa.ne26 hf.box)]; exact hf.box, hf.fa.set hk, hf.fb.setOther hf.ab, hf.la, hf.lb, hf.ab⟩
theorem Fresh.drew {w0 w1 : World} {q pa ca pb cb n : Nat} {l h : Nat → Nat} (hf : Fresh w0 q pa ca pb cb n l h w1) : Fresh w0 q pa ca pb cb n l h w1.drew :=
  ⟨hf.below.drew, hf.hq, hf.box, hf.fa.drew, hf.fb.drew, hf.la, hf.lb, hf.ab⟩
theorem CInv.drew {W0 : World} {B R n ra ca rb cb : Nat} {rl rh : Nat → Nat} {v : Value} {Ps : List Piece} {wr : World} (h : CInv W0 B R n ra ca rb cb rl rh v Ps wr) : CInv W0 B R n ra ca rb cb rl rh v Ps wr.drew := h.drewN' 1

/-- the new zone is appended -/
theorem CInv.pushFresh {W0 : World} {B R n ra ca rb cb : Nat} {rl rh : Nat → Nat} {v : Value} {Ps : List Piece} {wr w1 w2 : World} {q pa ca' pb cb' : Nat} {l h : Nat → Nat} {v' : Value} {o : Obj}
    (hI : CInv W0 B R n ra ca rb cb rl rh v Ps wr) (hF : Fresh wr q pa ca' pb cb' n l h w1) (hg : (w1.alloc o).grownBy w2 v.ownBlock)
    (ho : w2.ownsRow (R + 1) 26 2 v' (Ps.length + 1) (pcells n Ps ++ [.slice (some ⟨pa, 0, none⟩) n ca', .slice (some ⟨pb, 0, none⟩) n cb'])) :
    CInv W0 B R n ra ca rb cb rl rh v' (Ps ++ [⟨pa, ca', pb, cb', l, h⟩]) w2 := by
  have s1 := hF.below.size
  have hX : CInv W0 B R n ra ca rb cb rl rh v Ps (w1.alloc o) := hI.mono (hF.below.alloc s1 o)
  have e1 := hI.fa.lt
  have e2 := hI.fb.lt
  have e3 := hF.la
  have e4 := hF.lb
  exact hX.push hg ho (hF.fa.alloc o) (hF.fb.alloc o) (by show pa ≠ ra; omega) (by show pa ≠ rb; omega) (by show pb ≠ ra; omega) (by show pb ≠ rb; omega)

end Go.Proofs.Qxb6600053a
