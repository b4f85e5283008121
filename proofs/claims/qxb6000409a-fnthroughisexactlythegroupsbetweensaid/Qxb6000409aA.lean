import Derived.Test.Qxb6000409aProg
import Derived.WalkKit
import Derived.WalkLawsBesides
import Derived.WalkSpells
import Derived.BigQuiet
import Derived.Lib.SliceRun
import Derived.Maps.OwnSet
import Derived.Deep.AppendLies
import Derived.Deep.Light
namespace Go.Proofs.Qxb6000409a
open Go.RowKit Go.Maps

theorem hide {p : Prop} (h : p) : Hid p := h
theorem unhide {p : Prop} (h : Hid p) : p := h

/-! ### A map keyed by strings, as a function: whatever its elements -/
/-- an element reads as itself -/
def Rv (v : Value) : Option (DataW Value × List MemPlace) := some (.held v, [])
def klit (s : ByteArray) : Lit := .string s.data.toList
theorem law9 : Keyed Try.prog 9 := string_keyed Try.underlying9
theorem key9 {s : ByteArray} (h : s.size ≤ maxLen) : keyOf Try.prog 9 (.string s) = some (klit s) := WideMaps.keyOf_string_mk Try.underlying9 h
theorem klit_ne {s t : ByteArray} (h : s ≠ t) : klit s ≠ klit t := fun e => h (by
  unfold klit at e
  injection e with e
  exact ByteArray.ext (Array.ext' e))

/-- block b is a map of at most n entries that answers f -/
def MapF (w : World) (b n : Nat) (f : ByteArray → Option Value) : Prop :=
  ∃ D : DataW Value, w.ownsMap Try.prog 9 Rv b n D ∧ ∀ s z, D.atKey (klit s) z = (f s).elim z DataW.held

section
variable {w w' : World} {b n : Nat} {f : ByteArray → Option Value}
theorem MapF.made (w : World) : MapF (w.alloc (.map #[] 0)) w.heap.size 0 (fun _ => none) := ⟨_, World.ownsMap_made w _ _ _, fun _ _ => rfl⟩
theorem MapF.lt (h : MapF w b n f) : b < w.heap.size := let ⟨_, h, _⟩ := h; h.lt
theorem MapF.of_block (h : MapF w b n f) (e : w'.heap[b]? = w.heap[b]?) : MapF w' b n f := by
  obtain ⟨D, ⟨es, clock, hb, F⟩, hf⟩ := h
  exact ⟨D, ⟨es, clock, by rw [e]; exact hb, F⟩, hf⟩
theorem MapF.below {B : Nat} (h : MapF w b n f) (hb : Below B w w') (hB : b < B) : MapF w' b n f := h.of_block (hb.block b hB)
theorem MapF.grown {row : Option Nat} (h : MapF w b n f) (hg : w.grownBy w' row) (hne : some b ≠ row) : MapF w' b n f := h.of_block (hg.block b h.lt hne)
theorem MapF.alloc (h : MapF w b n f) (o : Obj) : MapF (w.alloc o) b n f := h.of_block (Below.heap_alloc w o b h.lt)
theorem MapF.drewN (h : MapF w b n f) (m : Nat) : MapF (w.drewN m) b n f := h.of_block rfl
theorem MapF.setCell (h : MapF w b n f) {p : Addr} (hp : b ≠ p.block) (u : Value) : MapF (w.setCell p u) b n f := h.of_block (Below.heap_setCell w p u b hp)

theorem MapF.lookup (h : MapF w b n f) {t e : TypeId} (ht : Try.prog.underlying t = some (.map 9 e)) {z : Value} (hz : (zeroValue e).run Try.prog w = .ok z w) {s : ByteArray} (hs : s.size ≤ maxLen) :
    (Instr.lookup t (.map (some b)) (.string s) false).run Try.prog w = .ok ((f s).getD z) w := by
  obtain ⟨D, hown, hf⟩ := h
  obtain ⟨v, ps, hrun, hv⟩ := hown.lookup law9 ht hz (zd := .held z) (zp := []) rfl (key9 hs)
  rw [hf] at hv
  simp [Rv] at hv
  rw [hrun]
  cases hfs : f s with
  | none => rw [hfs] at hv; simp at hv; simp [hv.1]
  | some u => rw [hfs] at hv; simp at hv; simp [hv.1]

theorem MapF.update (h : MapF w b n f) {t e : TypeId} (ht : Try.prog.underlying t = some (.map 9 e)) (hn : n < maxLen) {s : ByteArray} (hs : s.size ≤ maxLen) (v : Value) :
    ∃ w', (Instr.mapUpdate t (.map (some b)) (.string s) v).run Try.prog w = .ok () w' ∧ MapF w' b (n + 1) (fun x => if x = s then some v else f x) ∧ w.grownBy w' (some b) := by
  obtain ⟨D, hown, hf⟩ := h
  obtain ⟨w', hrun, hown', hg⟩ := hown.update law9 ht hn (key9 hs) (val := v) (d := .held v) (ps := []) rfl
  refine ⟨w', hrun, ⟨_, hown', fun x z => ?_⟩, hg⟩
  by_cases e : x = s
  · subst e
    rw [atKey_put_same hown.isMap (by exact trivial)]
    simp
  · rw [atKey_put_other (klit_ne e), hf]; simp [e]
end
end Go.Proofs.Qxb6000409a
