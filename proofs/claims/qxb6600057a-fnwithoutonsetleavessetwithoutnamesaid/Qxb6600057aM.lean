import Derived.Test.Qxb6600057aRows
import Derived.ProofKit
namespace Go.Proofs.Qxb6600057a

/-! ### The closed facts of the dump's head: by general laws, so that the kernel need not take the long string apart again and again -/
theorem list_of_lit (s : String) (l : List Char) (e : s = String.ofList l) : s.toList = l := by rw [e, String.toList_ofList]
theorem head_of {l : List (List Char)} {c : List Char} (h : l.head? = some c) : ∃ ws, l = c :: ws := by
  cases l with
  | nil => cases h
  | cons a ws => exact ⟨ws, by cases h; rfl⟩
set_option maxRecDepth 100000 in
theorem words_ok : ∃ ws, behindMainWord (wordsSigns Try.prog.initOrder.toList) = "cut".toList :: ws := by
  rw [list_of_lit Try.prog.initOrder _ rfl]
  exact head_of (by kernel_rfl)
theorem make_gen (P : Program) (ws : List (List Char)) (h : behindMainWord (wordsSigns P.initOrder.toList) = "cut".toList :: ws) : P.make = some .cut := by
  unfold Program.make
  rw [h]
  rfl
theorem lifts_gen (P : Program) (ws : List (List Char)) (h : behindMainWord (wordsSigns P.initOrder.toList) = "cut".toList :: ws) : P.liftsFinal = false := by
  unfold Program.liftsFinal Program.headLifts
  rw [h]
  rfl
theorem enter_gen (P : Program) (ws : List (List Char)) (h : behindMainWord (wordsSigns P.initOrder.toList) = "cut".toList :: ws) (h1 : P.laysLater = false) (h2 : P.bearsReflect = false) (h3 : P.doorFits [] = true) : P.mayEnter = true := by
  unfold Program.mayEnter
  rw [h]
  have e : stripLifts liftWords ("cut".toList :: ws) = ([], "cut".toList :: ws) := rfl
  simp only [e, h1, h2, h3]
  rfl
theorem enter_ok : Try.prog.mayEnter = true := by
  obtain ⟨ws, h⟩ := words_ok
  exact enter_gen _ ws h (by kernel_rfl) (by kernel_rfl) (by kernel_rfl)
theorem make_ok : Try.prog.make = some .cut := by
  obtain ⟨ws, h⟩ := words_ok
  exact make_gen _ ws h
theorem lifts_ok : Try.prog.liftsFinal = false := by
  obtain ⟨ws, h⟩ := words_ok
  exact lifts_gen _ ws h

end Go.Proofs.Qxb6600057a
