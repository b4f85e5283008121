import Derived.Test.Qxb6600053aA
import Derived.Deep.AppendLies
import Derived.Deep.Light
namespace Go.Proofs.Qxb6600053a
open Go.RowKit

/-- block b is a row of floats, none of it frozen, whose first n are x 0 .. x (n - 1) -/
def FB (w : World) (b n : Nat) (x : Nat → Nat) : Prop := ∃ cur, w.heap[b]? = some (.cells cur 30 (0, 0)) ∧ ∀ i, i < n → cur[i]? = some (.float .f64 (x i))

section
variable {w w' : World} {b n : Nat} {x : Nat → Nat}
theorem FB.of_block (h : FB w b n x) (e : w'.heap[b]? = w.heap[b]?) : FB w' b n x := by
  obtain ⟨cur, h1, h2⟩ := h
  exact ⟨cur, by rw [e, h1], h2⟩
theorem FB.lt (h : FB w b n x) : b < w.heap.size := by
  obtain ⟨cur, h1, _⟩ := h
  by_cases hb : b < w.heap.size
  · exact hb
  · rw [Array.getElem?_eq_none (by omega)] at h1; cases h1
theorem FB.below {B : Nat} (h : FB w b n x) (hb : Below B w w') (hB : b < B) : FB w' b n x := h.of_block (hb.block b hB)
theorem FB.at (h : FB w b n x) : FAt w b 0 n x := fun i hi => by
  obtain ⟨cur, h1, h2⟩ := h
  rw [Nat.zero_add]
  simp [World.cell?, h1, h2 i hi]
theorem FB.cell (h : FB w b n x) {i : Nat} (hi : i < n) : w.cell? ⟨b, i, none⟩ = some (.float .f64 (x i)) := by
  have := h.at i hi
  rwa [Nat.zero_add] at this
theorem FB.frozen (h : FB w b n x) {i : Nat} : w.frozen? ⟨b, i, none⟩ = false := by
  obtain ⟨cur, h1, _⟩ := h
  exact frozen_of_row w b i cur 30 h1
theorem FB.set (h : FB w b n x) {k v : Nat} (hk : k < n) : FB (w.setCell ⟨b, k, none⟩ (.float .f64 v)) b n (fun i => if i = k then v else x i) := by
  obtain ⟨cur, h1, h2⟩ := h
  refine ⟨cur.setIfInBounds k (.float .f64 v), heap_setCell_same w b k cur 30 _ h1, fun i hi => ?_⟩
  rw [Array.getElem?_setIfInBounds]
  by_cases e : i = k
  · subst e
    have : i < cur.size := by
      by_cases hc : i < cur.size
      · exact hc
      · have := h2 i hi; rw [Array.getElem?_eq_none (by omega)] at this; cases this
    simp [this]
  · rw [if_neg (fun h => e h.symm)]; simp only [e, if_false]; exact h2 i hi
theorem FB.setOther (h : FB w b n x) {p k : Nat} {v : Value} (hp : p ≠ b) : FB (w.setCell ⟨p, k, none⟩ v) b n x :=
  h.of_block (heap_setCell_other w ⟨p, k, none⟩ b v (fun e => hp e.symm))
theorem FB.alloc (h : FB w b n x) (o : Obj) : FB (w.alloc o) b n x := h.of_block (Below.heap_alloc w o b h.lt)
theorem FB.drewN (h : FB w b n x) (m : Nat) : FB (w.drewN m) b n x := h.of_block rfl
theorem FB.drew (h : FB w b n x) : FB w.drew b n x := h.of_block rfl
theorem FB.grown {row : Option Nat} (h : FB w b n x) (hg : w.grownBy w' row) (hr : some b ≠ row) : FB w' b n x := h.of_block (hg.block b h.lt hr)
end

theorem hide5 {p q : Prop} (h : p) (h' : q) : Hid (p ∧ q) := ⟨h, h'⟩
/-- the floats as cells -/
def fcells (x : Nat → Nat) (n : Nat) : List Value := (List.range n).map fun i => Value.float .f64 (x i)

theorem addr_add (b f j : Nat) : Addr.add ⟨b, f, none⟩ j = ⟨b, f + j, none⟩ := by
  unfold Addr.add
  by_cases h : j = 0
  · simp [h]
  · simp [h]
theorem fb_of_own {w : World} {base g n cap : Nat} {x : Nat → Nat} (h : w.ownsRow base 30 1 (.slice (some ⟨g, 0, none⟩) n cap) n (fcells x n)) : base ≤ g ∧ FB w g n x := by
  rcases h.2 with ⟨h', _⟩ | ⟨g', cap', cur, hv, hb, hg, h1, h2, h3, h4⟩
  · simp at h'
  · simp at hv
    obtain ⟨rfl, rfl⟩ := hv
    refine ⟨hb, cur, hg, fun i hi => ?_⟩
    have : (cur.toList.take (n * 1))[i]? = (fcells x n)[i]? := by rw [h4]
    rw [List.getElem?_take, if_pos (by omega)] at this
    simpa [fcells, hi] using this

set_option maxHeartbeats 400000 in
/-- slices.Clone: a new row -/
theorem sclone (b f n c : Nat) (x : Nat → Nat) (w : World) (hn0 : 0 < n) (hn : n ≤ 1048576) (hbs : b < w.heap.size) (h0 : FAt w b f n x) :
    Calls Try.prog 34 #[.slice (some ⟨b, f, none⟩) n c] w fun e w' => ∃ g cap, e = .returned (.slice (some ⟨g, 0, none⟩) n cap) ∧ w.heap.size ≤ g ∧ FB w' g n x ∧ Below w.heap.size w w' := by
  have q22 : ∀ (w : World) (a : Option Addr) (n c n' c' : Nat), (binOp .eql 22 (.slice a n c) (.slice none n' c')).run Try.prog w = .ok (.bool a.isNone) w := fun w a n c n' c' => Lib.run_eql_slice_nil w _ _ a n c n' c' Try.underlying22
  obtain ⟨i0, hi, hz0, hz1, hz2⟩ := info_parts info30
  go_enter Try.func34, Try.ntmps34
  go_wp2_with (at_builtin; refine wpList_append_lies _ rfl _ _ _ rfl w.heap.size 30 i0 (.float .f64 0) 1 8 Try.underlying22 hi hz0 hz1 hz2 rfl (by omega) _ 0 [] (by rfl) (World.ownsRow_lit w #[] 0 (Nat.le_refl _) (by simp) rfl) ⟨b, f, none⟩ n c (fcells x n) (by rfl) ?c1 ?c2 ?c3 hn0 ?c4 ?c5 ?c6 (w.heap.size + 1) (by simp) ?_)
  case c1 => simp [fcells]
  case c2 =>
    intro j u hj
    have hj' : j < n := by
      have := (List.getElem?_eq_some_iff.1 hj).1
      simpa [fcells] using this
    rw [addr_add, World.cell?_alloc_past _ _ _ hbs, h0 j hj']
    simpa [fcells, hj'] using hj
  case c3 =>
    intro u hu
    simp [fcells] at hu
    obtain ⟨i, _, rfl⟩ := hu
    rfl
  case c4 => unfold maxLen; omega
  case c5 => omega
  case c6 => simp
  intro g cap w1 hown hgrow hat hlt
  have hH := hide5 hown hgrow
  clear hown hgrow hat hlt
  go_wp2
  go_ret
  obtain ⟨hown, hgrow⟩ := hH.out
  obtain ⟨hg1, hfb⟩ := fb_of_own hown
  exact ⟨g, cap, rfl, hg1, hfb, ((Below.refl _ _).alloc (Nat.le_refl _) _).grown hgrow (by simp) (fun k hk => by simp [Value.ownBlock] at hk; omega)⟩
end Go.Proofs.Qxb6600053a
