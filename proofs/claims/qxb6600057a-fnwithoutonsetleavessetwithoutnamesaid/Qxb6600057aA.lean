import Derived.Test.Qxb6600057aProg
import Derived.WalkKit
import Derived.WalkLawsBesides
import Derived.WalkSpells
import Derived.BigQuiet
import Derived.Lib.SliceRun
import Derived.Deep.AppendLies
import Derived.Deep.Light
namespace Go.Proofs.Qxb6600057a
open Go.RowKit

theorem hide {p : Prop} (h : p) : Hid p := h
theorem unhide {p : Prop} (h : Hid p) : p := h

/-! ### strings -/
def e0 : ByteArray := ⟨#[]⟩
/-- equality as the walk spells it -/
def seq (a b : ByteArray) : Bool := a.toList == b.toList
theorem toList_inj {a b : ByteArray} (h : a.toList = b.toList) : a = b := by
  rw [ByteArray.toList_eq, ByteArray.toList_eq] at h
  exact ByteArray.ext (Array.ext' h)
theorem seq_iff {a b : ByteArray} : seq a b = true ↔ a = b := by
  unfold seq
  rw [beq_iff_eq]
  exact ⟨toList_inj, fun h => by rw [h]⟩
theorem seq_self (a : ByteArray) : seq a a = true := seq_iff.2 rfl
theorem seq_false {a b : ByteArray} : seq a b = false ↔ a ≠ b := by
  rw [Bool.eq_false_iff, ne_eq, seq_iff]
/-- '<' of strings is the order of their bytes' lists -/
theorem bytes_lt : ∀ (x y : List UInt8), Op.bytesLess x y = true ↔ x < y
  | [], [] => by simp [Op.bytesLess]
  | _ :: _, [] => by simp [Op.bytesLess]
  | [], _ :: _ => by simp [Op.bytesLess]
  | a :: x, b :: y => by
    have ih := bytes_lt x y
    rw [Op.bytesLess, List.cons_lt_cons_iff, ← ih]
    by_cases h1 : a < b
    · simp [h1]
    · by_cases h2 : a = b
      · simp [h2]
      · simp [h1, h2]
/-- less, as the walk spells it -/
def slt (a b : ByteArray) : Bool := Op.bytesLess a.toList b.toList
theorem slt_iff {a b : ByteArray} : slt a b = true ↔ a.toList < b.toList := by
  exact bytes_lt _ _
theorem slt_irrefl (a : ByteArray) : slt a a = false := by
  rw [Bool.eq_false_iff, ne_eq, slt_iff]
  exact List.lt_irrefl _
theorem slt_trans {a b c : ByteArray} (h1 : slt a b = true) (h2 : slt b c = true) : slt a c = true := by
  rw [slt_iff] at *
  exact List.lt_trans h1 h2
theorem slt_tri {a b : ByteArray} (h1 : slt a b = false) (h2 : slt b a = false) : a = b := by
  rw [Bool.eq_false_iff, ne_eq, slt_iff] at h1 h2
  exact toList_inj (List.le_antisymm (List.not_lt.1 h2) (List.not_lt.1 h1))
/-- b ≤ c < d -/
theorem slt_of_le {b c d : ByteArray} (h1 : slt c b = false) (h2 : slt c d = true) : slt b d = true := by
  rcases Bool.eq_false_or_eq_true (slt b c) with t | t
  · exact slt_trans t h2
  · rw [slt_tri t h1]; exact h2
/-- b < c ≤ d -/
theorem slt_of_lt_le {b c d : ByteArray} (h1 : slt b c = true) (h2 : slt d c = false) : slt b d = true := by
  rcases Bool.eq_false_or_eq_true (slt c d) with t | t
  · exact slt_trans h1 t
  · rw [← slt_tri t h2]; exact h1
end Go.Proofs.Qxb6600057a
