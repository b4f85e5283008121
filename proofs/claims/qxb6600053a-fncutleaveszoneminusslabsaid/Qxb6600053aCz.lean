import Derived.Test.Qxb6600053aRows
import Derived.ProofKit
import Derived.OpenShut
import Derived.ShutString
import Derived.ChangeOld
import Derived.Deep.Slices
import Derived.Test.Qxb6600053aCw
import Derived.Test.Qxb6600053aCy
namespace Go.Proofs.Qxb6600053a
open Go.ChangeShapes Go.WideShapes Go.ChangeAt Go.RowKit Go.Deep
set_option linter.unusedVariables false

/-- what is told of a slice of floats that came in: it is empty, or its elements lie in a row -/
def IsFs (w : World) (a : Option Addr) (n : Nat) (x : Nat → Nat) : Prop := n = 0 ∨ ∃ b f, a = some ⟨b, f, none⟩ ∧ FAt w b f n x

theorem trod_f {H : Type} {enc : TypeId × Value → H} {P : Program} {w : World} {base : Nat} {spare : Nat → Bool} {held : Bool} {n : Nat} {e : TypeId} {v : Value} {y : DataW H × List MemPlace}
    (he : P.underlying e = some (.float .f64)) (h : DataW.trod enc P w base spare held n e [v] = some y) : ∃ b, v = .float .f64 b := by
  cases n with
  | zero => simp [DataW.trod] at h
  | succ n =>
    cases v <;> simp [DataW.trod, he] at h
    exact ⟨_, by rw [h.1.1]⟩

theorem open_fs {H : Type} {enc : TypeId × Value → H} {w : World} {base : Nat} {spare : Nat → Bool} {held : Bool} {a : Option Addr} {n c : Nat} {d : DataW H} {ps : List MemPlace}
    (h : DataW.Trod enc Try.prog w base spare held 22 (.slice a n c) d ps) : ∃ x, IsFs w a n x := by
  obtain ⟨fuel, hf⟩ := h
  rcases open_slice1 Try.underlying22 (by kernel_rfl) hf with ⟨hcs, _⟩ | ⟨ad, len, cap, m, k, V, D, Pl, hcs, _, hl, _, hm, _, hx⟩
  · simp [Value.cells] at hcs
    exact ⟨fun _ => 0, .inl hcs.2.1⟩
  · simp [Value.cells] at hcs
    obtain ⟨rfl, rfl, rfl⟩ := hcs
    by_cases h0 : n = 0
    · exact ⟨fun _ => 0, .inl h0⟩
    have hnm : n ≤ m := by rw [hm]; split <;> omega
    have hv : ∀ i, i < n → ∃ b, V i = .float .f64 b := fun i hi => trod_f Try.underlying30 (hx i (by omega)).2
    obtain ⟨b, f, spot⟩ := ad
    have hs : spot = none := by simpa [Addr.add] using World.cell?_spot (hx 0 (by omega)).1
    subst hs
    refine ⟨fun i => match V i with | .float _ b => b | _ => 0, .inr ⟨b, f, rfl, fun i hi => ?_⟩⟩
    have h1 := (hx i (by omega)).1
    obtain ⟨v, hv⟩ := hv i hi
    rw [hv] at h1
    simp only [hv]
    rw [add_plain] at h1
    exact h1

theorem cut_walk (a0 : Option Addr) (len0 cap0 : Nat) (z0 : Nat → Nat) (a1 : Option Addr) (len1 cap1 : Nat) (z1 : Nat → Nat) (a2 : Option Addr) (len2 cap2 : Nat) (z2 : Nat → Nat) (a3 : Option Addr) (len3 cap3 : Nat) (z3 : Nat → Nat) (a4 : Option Addr) (len4 cap4 : Nat) (z4 : Nat → Nat) (a5 : Int) (w : World)
    (w0 : IsFs w a0 len0 z0) (w1 : IsFs w a1 len1 z1) (w2 : IsFs w a2 len2 z2) (w3 : IsFs w a3 len3 z3) (w4 : IsFs w a4 len4 z4) :
    Calls Try.prog 6 #[.slice a0 len0 cap0, .slice a1 len1 cap1, .slice a2 len2 cap2, .slice a3 len3 cap3, .slice a4 len4 cap4, .int .i64 a5] w fun e w' => e = .returned (.bool true) ∧ Below w.heap.size w w' := by
  by_cases h : len1 = len0 ∧ len2 = len0 ∧ len3 = len0 ∧ len4 = len0 ∧ len0 ≤ 1024
  · obtain ⟨rfl, rfl, rfl, rfl, h⟩ := h
    by_cases hz : len4 = 0
    · subst hz
      exact claw_zero _ _ _ _ _ _ _ _ _ _ _ _
    · rcases w0 with e | ⟨b0, f0, rfl, x0⟩
      · exact absurd e hz
      rcases w1 with e | ⟨b1, f1, rfl, x1⟩
      · exact absurd e hz
      rcases w2 with e | ⟨b2, f2, rfl, x2⟩
      · exact absurd e hz
      rcases w3 with e | ⟨b3, f3, rfl, x3⟩
      · exact absurd e hz
      rcases w4 with e | ⟨b4, f4, rfl, x4⟩
      · exact absurd e hz
      exact claw_some _ _ _ _ _ _ _ _ _ _ _ _ _ _ _ _ _ _ _ _ _ _ _ (by omega) h x0 x1 x2 x3 x4
  · refine (claw_short _ _ _ _ _ _ _ _ _ _ _ _ _ _ _ _ _ h).mono ?_
    rintro e w' ⟨rfl, rfl⟩
    exact ⟨rfl, Below.refl _ _⟩

theorem own : ownKnob Try.prog.godebug = none := by kernel_rfl
theorem laidOut : laidOutB Try.prog = true := by kernel_rfl

/-! ### The row -/
set_option maxRecDepth 100000 in
theorem cut_lifted (os : Os) (started : os.Started) (H : Type) (enc : TypeId × Value → H) :
    ReturnsInHanded {} Try.checked os 6 .any (Rows.fnCutLeavesZoneMinusSlabSpec.pre6 enc Try.prog Try.f6 Rows.fnCutLeavesZoneMinusSlabRow.domain false) (Rows.fnCutLeavesZoneMinusSlabSpec.post enc Try.prog Try.f6 false true false false) := by
  refine returnsInHanded_of_change (C := Try.checked) own started (by kernel_rfl) Try.func6
    (ChangeSpec.witness6 (enc := enc) (C := Try.checked) false ⟨#[], #[.slice none 0 0, .slice none 0 0, .slice none 0 0, .slice none 0 0, .slice none 0 0, .int .i64 0], []⟩ 8 (by kernel_rfl) (by kernel_rfl) (by kernel_rfl) (by kernel_rfl)) ?_
  intro W base args ds gs before hval0 hW hcnd _
  have hval : ∀ (j : Nat) t v, Try.f6.params[j]? = some t → args[j]? = some v → Value.okWide Try.prog W .any base t v := hval0
  have hW' := hW
  obtain ⟨p, q, hA0, hV, rfl, hfz, hnd⟩ := hW
  have hA : DataW.TrodAll enc Try.prog W 0 (fun _ => true) true Try.f6.params.toList args.toList ds p := hA0
  rw [Try.params6] at hA hval
  obtain ⟨v0, vs0, d0, ds0, p0, q0, hargs, rfl, rfl, h0, r0⟩ := trodAll_cons hA
  obtain ⟨v1, vs1, d1, ds1, p1, q1, rfl, rfl, rfl, h1, r1⟩ := trodAll_cons r0
  obtain ⟨v2, vs2, d2, ds2, p2, q2, rfl, rfl, rfl, h2, r2⟩ := trodAll_cons r1
  obtain ⟨v3, vs3, d3, ds3, p3, q3, rfl, rfl, rfl, h3, r3⟩ := trodAll_cons r2
  obtain ⟨v4, vs4, d4, ds4, p4, q4, rfl, rfl, rfl, h4, r4⟩ := trodAll_cons r3
  obtain ⟨v5, vs5, d5, ds5, p5, q5, rfl, rfl, rfl, h5, r5⟩ := trodAll_cons r4
  obtain ⟨rfl, rfl, rfl⟩ := trodAll_nil r5
  obtain rfl : args = #[v0, v1, v2, v3, v4, v5] := by cases args; simp_all
  obtain ⟨rfl, rfl⟩ := trodVars_none hV
  obtain ⟨a0, len0, cap0, rfl⟩ := okWide_slice Try.underlying22 (hval 0 22 v0 rfl rfl)
  have k0 := h0
  have lt0 : ∀ x ∈ p0, x.block < W.heap.size := by obtain ⟨m, hm⟩ := k0; exact DataW.trod_lt m _ _ _ hm
  obtain ⟨z0, w0⟩ := open_fs h0
  obtain ⟨a1, len1, cap1, rfl⟩ := okWide_slice Try.underlying22 (hval 1 22 v1 rfl rfl)
  have k1 := h1
  have lt1 : ∀ x ∈ p1, x.block < W.heap.size := by obtain ⟨m, hm⟩ := k1; exact DataW.trod_lt m _ _ _ hm
  obtain ⟨z1, w1⟩ := open_fs h1
  obtain ⟨a2, len2, cap2, rfl⟩ := okWide_slice Try.underlying22 (hval 2 22 v2 rfl rfl)
  have k2 := h2
  have lt2 : ∀ x ∈ p2, x.block < W.heap.size := by obtain ⟨m, hm⟩ := k2; exact DataW.trod_lt m _ _ _ hm
  obtain ⟨z2, w2⟩ := open_fs h2
  obtain ⟨a3, len3, cap3, rfl⟩ := okWide_slice Try.underlying22 (hval 3 22 v3 rfl rfl)
  have k3 := h3
  have lt3 : ∀ x ∈ p3, x.block < W.heap.size := by obtain ⟨m, hm⟩ := k3; exact DataW.trod_lt m _ _ _ hm
  obtain ⟨z3, w3⟩ := open_fs h3
  obtain ⟨a4, len4, cap4, rfl⟩ := okWide_slice Try.underlying22 (hval 4 22 v4 rfl rfl)
  have k4 := h4
  have lt4 : ∀ x ∈ p4, x.block < W.heap.size := by obtain ⟨m, hm⟩ := k4; exact DataW.trod_lt m _ _ _ hm
  obtain ⟨z4, w4⟩ := open_fs h4
  obtain ⟨a5, rfl, rfl, rfl, w5⟩ := open_int Try.underlying3 (hval 5 3 v5 rfl rfl) h5
  clear hA0 hval0
  refine (cut_walk a0 len0 cap0 z0 a1 len1 cap1 z1 a2 len2 cap2 z2 a3 len3 cap3 z3 a4 len4 cap4 z4 a5 W w0 w1 w2 w3 w4).mono fun e W' ⟨he, bel⟩ => ?_
  subst he
  exact ⟨_, rfl, _, _, _, [], _, [], hW', trodAll_mk1 (shut_bool Try.underlying4 _), (trodAll_cons_mk (Below.trod laidOut (by kernel_rfl) (of_decide_eq_true (by kernel_rfl)) k0 bel lt0) (trodAll_cons_mk (Below.trod laidOut (by kernel_rfl) (of_decide_eq_true (by kernel_rfl)) k1 bel lt1) (trodAll_cons_mk (Below.trod laidOut (by kernel_rfl) (of_decide_eq_true (by kernel_rfl)) k2 bel lt2) (trodAll_cons_mk (Below.trod laidOut (by kernel_rfl) (of_decide_eq_true (by kernel_rfl)) k3 bel lt3) (trodAll_cons_mk (Below.trod laidOut (by kernel_rfl) (of_decide_eq_true (by kernel_rfl)) k4 bel lt4) (trodAll_cons_mk (shut_int Try.underlying3 w5) trodAll_mk0)))))), rfl, bel.frame _, fun h => by cases h⟩

end Go.Proofs.Qxb6600053a
