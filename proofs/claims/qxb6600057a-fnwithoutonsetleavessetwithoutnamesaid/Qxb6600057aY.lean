import Derived.Test.Qxb6600057aRows
import Derived.ProofKit
import Derived.OpenShut
import Derived.ShutString
import Derived.ChangeOld
import Derived.Deep.Slices
import Derived.Test.Qxb6600057aB
import Derived.ChangeMaps5
namespace Go.Proofs.Qxb6600057a
open Go.ChangeShapes Go.WideShapes Go.ChangeAt Go.RowKit Go.Deep

theorem trod_s {H : Type} {enc : TypeId × Value → H} {P : Program} {w : World} {base : Nat} {spare : Nat → Bool} {held : Bool} {n : Nat} {e : TypeId} {v : Value} {y : DataW H × List MemPlace}
    (he : P.underlying e = some .string) (h : DataW.trod enc P w base spare held n e [v] = some y) : ∃ s, v = .string s := by
  cases n with
  | zero => simp [DataW.trod] at h
  | succ n =>
    cases v <;> simp [DataW.trod, he] at h
    exact ⟨_, rfl⟩

/-- what is told of a slice of strings that came in -/
theorem open_ss {H : Type} {enc : TypeId × Value → H} {w : World} {base : Nat} {spare : Nat → Bool} {held : Bool} {a : Option Addr} {n c : Nat} {d : DataW H} {ps : List MemPlace}
    (h : DataW.Trod enc Try.prog w base spare held 22 (.slice a n c) d ps) : ∃ x, SRow w a n x := by
  obtain ⟨fuel, hf⟩ := h
  rcases open_slice1 Try.underlying22 (by kernel_rfl) hf with ⟨hcs, _⟩ | ⟨ad, len, cap, m, k, V, D, Pl, hcs, _, hl, _, hm, _, hx⟩
  · simp [Value.cells] at hcs
    exact ⟨fun _ => ⟨#[]⟩, .inl hcs.2.1⟩
  · simp [Value.cells] at hcs
    obtain ⟨rfl, rfl, rfl⟩ := hcs
    by_cases h0 : n = 0
    · exact ⟨fun _ => ⟨#[]⟩, .inl h0⟩
    have hnm : n ≤ m := by rw [hm]; split <;> omega
    have hv : ∀ i, i < n → ∃ b, V i = .string b := fun i hi => trod_s Try.underlying9 (hx i (by omega)).2
    obtain ⟨b, f, spot⟩ := ad
    have hs : spot = none := by simpa [Addr.add] using World.cell?_spot (hx 0 (by omega)).1
    subst hs
    refine ⟨fun i => match V i with | .string b => b | _ => ⟨#[]⟩, .inr ⟨b, f, rfl, fun i hi => ?_⟩⟩
    have h1 := (hx i (by omega)).1
    obtain ⟨v, hv⟩ := hv i hi
    rw [hv] at h1
    simp only [hv]
    have e : (⟨b, f, none⟩ : Addr).add i = ⟨b, f + i, none⟩ := by simp [Addr.add]
    rw [e] at h1
    exact h1
theorem own : ownKnob Try.prog.godebug = none := by kernel_rfl
theorem laidOut : laidOutB Try.prog = true := by kernel_rfl
end Go.Proofs.Qxb6600057a
