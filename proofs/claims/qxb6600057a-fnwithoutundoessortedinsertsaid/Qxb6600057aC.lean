import Derived.Test.Qxb6600057aB
import Derived.Deep.RegionLaw
import Derived.Lib.SliceRun
import Derived.Lib.EndianMore
namespace Go.Proofs.Qxb6600057a
open Go.RowKit

theorem info9 : (Try.prog.info? 9).map (fun i => (i.zero, i.size, i.bytes)) = some (some (.string e0), 1, 16) := by kernel_rfl
theorem zero9 (w : World) : (zeroValue 9).run Try.prog w = .ok (.string e0) w := by kernel_rfl
theorem below_new (w : World) (o : Obj) : Below w.heap.size w (w.alloc o) := (Below.refl _ _).alloc (Nat.le_refl _) _
theorem addr_add (b f i : Nat) : (⟨b, f, none⟩ : Addr).add i = ⟨b, f + i, none⟩ := by simp [Addr.add]

/-- a row of strings that may be written -/
def SFree (w : World) (g n : Nat) (x : Nat → ByteArray) : Prop := ∀ i, i < n → w.cell? ⟨g, i, none⟩ = some (.string (x i)) ∧ w.frozen? ⟨g, i, none⟩ = false
theorem SFree.at {w : World} {g n : Nat} {x : Nat → ByteArray} (h : SFree w g n x) : SAt w g 0 n x := fun i hi => by rw [Nat.zero_add]; exact (h i hi).1
def scells (x : Nat → ByteArray) (n : Nat) : List Value := (List.range n).map fun i => .string (x i)
theorem scells_len (x : Nat → ByteArray) (n : Nat) : (scells x n).length = n := by simp [scells]
theorem scells_get (x : Nat → ByteArray) {n i : Nat} (hi : i < n) : (scells x n)[i]? = some (.string (x i)) := by simp [scells, hi]
theorem scells_one (x : Nat → ByteArray) (n : Nat) : ∀ u ∈ scells x n, u.oneCell' = true := fun u hu => by
  simp [scells] at hu
  obtain ⟨i, _, rfl⟩ := hu
  rfl
theorem free_of_own {w : World} {base g n cap : Nat} {x : Nat → ByteArray} (h : w.ownsRow base 9 1 (.slice (some ⟨g, 0, none⟩) n cap) n (scells x n)) : base ≤ g ∧ n ≤ cap ∧ cap ≤ maxLen ∧ SFree w g n x := by
  rcases h.2 with ⟨h', _⟩ | ⟨g', cap', cur, hv, hb, hg, h1, h2, h3, h4⟩
  · simp at h'
  · simp at hv
    obtain ⟨rfl, rfl⟩ := hv
    refine ⟨hb, h1, h2, fun i hi => ⟨?_, h.frozenAt i⟩⟩
    rw [h.cellAt i (by omega), scells_get x hi]

/-! ### slices.Clone -/
set_option maxHeartbeats 400000 in
theorem clone19 (b f n c : Nat) (x : Nat → ByteArray) (w : World) (hn0 : 0 < n) (hn : n ≤ 1048576) (h0 : SAt w b f n x) :
    Calls Try.prog 19 #[.slice (some ⟨b, f, none⟩) n c] w fun e w' => ∃ g cap, e = .returned (.slice (some ⟨g, 0, none⟩) n cap) ∧ w.heap.size ≤ g ∧ n ≤ cap ∧ cap ≤ maxLen ∧ SFree w' g n x ∧ Below w.heap.size w w' := by
  have q22 : ∀ (w : World) (a : Option Addr) (n c n' c' : Nat), (binOp .eql 22 (.slice a n c) (.slice none n' c')).run Try.prog w = .ok (.bool a.isNone) w := fun w a n c n' c' => Lib.run_eql_slice_nil w _ _ a n c n' c' Try.underlying22
  obtain ⟨i0, hi, hz0, hz1, hz2⟩ := info_parts info9
  have hbs := h0.lt hn0
  go_enter Try.func19, Try.ntmps19
  go_wp2_with (at_builtin; refine wpList_append_lies _ rfl _ _ _ rfl w.heap.size 9 i0 (.string e0) 1 16 Try.underlying22 hi hz0 hz1 hz2 rfl (by omega) _ 0 [] (by rfl) (World.ownsRow_lit w #[] 0 (Nat.le_refl _) (by simp) rfl) ⟨b, f, none⟩ n c (scells x n) (by rfl) ?c1 ?c2 ?c3 hn0 ?c4 ?c5 ?c6 (w.heap.size + 1) (by simp) ?_)
  case c1 => simp [scells]
  case c2 =>
    intro j u hj
    have hj' : j < n := by
      have := (List.getElem?_eq_some_iff.1 hj).1
      simpa [scells] using this
    rw [addr_add, World.cell?_alloc_past _ _ _ hbs, h0 j hj']
    simpa [scells, hj'] using hj
  case c3 => exact scells_one x n
  case c4 => unfold maxLen; omega
  case c5 => omega
  case c6 => simp
  intro g cap w1 hown hgrow hat hlt
  have HO := hide hown
  have HG := hide hgrow
  clear hown hgrow hat hlt
  go_wp2
  go_ret
  obtain ⟨h1, h2, h3, h4⟩ := free_of_own HO.out
  exact ⟨g, cap, rfl, h1, h2, h3, h4, ((Below.refl _ _).alloc (Nat.le_refl _) _).grown HG.out (by simp) (fun k hk => by simp [Value.ownBlock] at hk; omega)⟩

/-! ### slices.Delete of one element -/
/-- x without its p-th -/
def del (x : Nat → ByteArray) (p j : Nat) : ByteArray := if j < p then x j else x (j + 1)
set_option maxHeartbeats 1000000 in
theorem delete18 (g n cap p j : Nat) (hj : j = p + 1) (x : Nat → ByteArray) (w : World) (hn : n ≤ 1048576) (hp : p < n) (hc : n ≤ cap) (h : SFree w g n x) :
    Calls Try.prog 18 #[.slice (some ⟨g, 0, none⟩) n cap, .int .i64 p, .int .i64 j] w fun e w' => e = .returned (.slice (some ⟨g, 0, none⟩) (n - 1) cap) ∧ SAt w' g 0 (n - 1) (del x p) ∧ Below g w w' := by
  obtain ⟨i0, hi, hz0, hz1, hz2⟩ := info_parts info9
  obtain ⟨news, hnews⟩ : ∃ news, news = scells (fun t => x (p + 1 + t)) (n - (p + 1)) := ⟨_, rfl⟩
  have hlen : news.length = n - (p + 1) := by rw [hnews, scells_len]
  obtain ⟨A, hA, hsrc⟩ : ∃ A : Addr, (if cap = j then some (⟨g, 0, none⟩ : Addr) else some ⟨g, j, none⟩) = some A ∧ Hid (∀ t u, news[t]? = some u → w.drew.cell? (A.add t) = some u) := by
    subst hj
    by_cases hcp : cap = p + 1
    · refine ⟨⟨g, 0, none⟩, by simp [hcp], fun t u hu => ?_⟩
      have h0 : news.length = 0 := by rw [hlen]; omega
      rw [List.length_eq_zero_iff.1 h0] at hu
      simp at hu
    · refine ⟨⟨g, p + 1, none⟩, by simp [hcp], fun t u hu => ?_⟩
      have ht : t < n - (p + 1) := by
        have := (List.getElem?_eq_some_iff.1 hu).1
        rwa [hlen] at this
      rw [hnews, scells_get _ ht] at hu
      rw [addr_add]
      exact (h (p + 1 + t) (by omega)).1.trans hu
  have s1 : Hid (news.length = (n - j) * 1) := by show _ = _; rw [hlen]; omega
  have s2 : Hid (∀ u ∈ news, u.oneCell' = true) := by rw [hnews]; exact scells_one _ _
  have s3 : Hid (∀ t, t < news.length → (w.drew.cell? ⟨g, 0 + p * 1 + t, none⟩).isSome = true ∧ w.drew.frozen? ⟨g, 0 + p * 1 + t, none⟩ = false) := by
    intro t ht
    rw [hlen] at ht
    rw [Nat.mul_one, Nat.zero_add]
    exact ⟨by show (w.cell? _).isSome = true; rw [(h (p + t) (by omega)).1]; rfl, (h (p + t) (by omega)).2⟩
  obtain ⟨W1, hW1⟩ : ∃ W1, W1 = w.drew.setCells g (0 + p * 1) news := ⟨_, rfl⟩
  have f1 : SFree W1 g n (fun j => if p ≤ j ∧ j < n - 1 then x (j + 1) else x j) := fun j hj => by
    rw [hW1, Nat.mul_one, Nat.zero_add]
    refine ⟨?_, by rw [World.frozen?_setCells]; exact (h j hj).2⟩
    by_cases hc : p ≤ j ∧ j < n - 1
    · simp only [hc, and_self, if_true]
      have := World.cell?_setCells_in g news p w.drew (fun t ht => by
        rw [hlen] at ht
        show (w.cell? _).isSome = true
        rw [(h (p + t) (by omega)).1]; rfl) (j - p) (by rw [hlen]; omega)
      rw [show p + (j - p) = j by omega] at this
      rw [this]
      have e2 : news[j - p]? = some (.string (x (p + 1 + (j - p)))) := by rw [hnews]; exact scells_get _ (by omega)
      rw [List.getElem?_eq_getElem (by rw [hlen]; omega)] at e2
      rw [e2, show p + 1 + (j - p) = j + 1 by omega]
    · simp only [hc, if_false]
      rw [World.cell?_setCells_out g news p w.drew ⟨g, j, none⟩ (fun _ _ => by show j < p ∨ p + news.length ≤ j; rw [hlen]; omega)]
      exact (h j hj).1
  have hcl : ∀ ty, (Builtin.clear_ #[22] ty #[.slice (some ⟨g, n - 1, none⟩) 1 (cap - (n - 1))]).run Try.prog W1 = .ok (.tuple #[]) (W1.setCells g (n - 1) (List.replicate 1 (.string e0))) :=
    fun ty => Lib.run_clear_slice W1 _ _ ty _ Try.underlying22 zero9 rfl rfl g (n - 1) _ _ (by omega) (fun t ht => by rw [show n - 1 + t = n - 1 by omega, (f1 (n - 1) (by omega)).1]; rfl) (fun t ht => by rw [show n - 1 + t = n - 1 by omega]; exact (f1 (n - 1) (by omega)).2)
  have hcl2 : ∀ ty, (Builtin.clear_ #[22] ty #[.slice (some ⟨g, p + (n - j), none⟩) (n - (p + (n - j))) (cap - (p + (n - j)))]).run Try.prog W1 = .ok (.tuple #[]) (W1.setCells g (n - 1) (List.replicate 1 (.string e0))) := by
    rw [show p + (n - j) = n - 1 by omega, show n - (n - 1) = 1 by omega]; exact hcl
  have hq1 : ¬ cap = p + (n - j) := by omega
  have hq2 : p + (n - j) ≤ n := by omega
  have hq3 : p + (n - j) ≤ cap := by omega
  clear hcl
  have F1 := hide f1
  have hW : Hid (W1 = w.drew.setCells g (0 + p * 1) news) := hW1
  have hic : p ≤ cap := by omega
  have hjc : j ≤ cap := by omega
  have hjn : j ≤ n := by omega
  have hpj : p < j := by omega
  have HJ := hide hj
  clear hW1 f1 h hnews hlen hj
  go_enter Try.func18, Try.ntmps18
  go_wp2_with fail
  go_region_law (refine step_append_room rfl (.tmp 22) (.tmp 25) 22 rfl 9 i0 1 Try.underlying22 hi hz1 g 0 p cap (by simp [Act.eval, Act.put]) A (n - j) (cap - j) news (by simp [Act.eval, Act.put]) s1.out hsrc.out s2.out (by omega) s3.out ?_; rw [← hW.out])
  go_wp2
  go_ret
  refine ⟨?_, fun k hk => ?_, ?_⟩
  · have e : p + (n - j) = n - 1 := by have := HJ.out; omega
    rw [← e]; rfl
  · rw [World.cell?_setCells_out g _ _ _ _ (fun _ _ => by show 0 + k < n - 1 ∨ _; omega), Nat.zero_add, (F1.out k (by omega)).1]
    have e1 : (if p ≤ k ∧ k < n - 1 then x (k + 1) else x k) = del x p k := by
      unfold del
      by_cases hkp : k < p
      · rw [if_neg (by omega), if_pos hkp]
      · rw [if_pos (by omega), if_neg hkp]
    rw [← e1]
  · rw [hW.out]
    exact ((Below.refl g w).drew.trans (Lib.below_setCells_w (Nat.le_refl _) _ _ _)).trans (Lib.below_setCells_w (Nat.le_refl _) _ _ _)
end Go.Proofs.Qxb6600057a
