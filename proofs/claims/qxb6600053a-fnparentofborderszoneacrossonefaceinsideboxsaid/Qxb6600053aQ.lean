import Derived.Test.Qxb6600053aP
namespace Go.Proofs.Qxb6600053a
open Go.RowKit

attribute [local go_sem] run_store_f

set_option maxHeartbeats 400000 in
theorem par_zero (v0 v1 v2 v3 : Value) (a : Option Addr) (c : Nat) (w : World) :
    Calls Try.prog 33 #[.agg #[v0, v1], .agg #[v2, v3], .slice a 0 c] w fun e w' => Below w.heap.size w w' ∧ e = .returned (.tuple #[.agg #[.slice none 0 0, .slice none 0 0], .bool false]) := by
  have hm1 : ∀ w, (Instr.makeSlice 22 (.int .i64 0) (.int .i64 0)).run Try.prog w = .ok (.slice (some ⟨w.heap.size, 0, none⟩) 0 0) (w.alloc (.cells (zF 0) 30)) := make22 0 (by omega)
  have hm2 : ∀ w, (Instr.makeSlice 41 (.int .i64 0) (.int .i64 0)).run Try.prog w = .ok (.slice (some ⟨w.heap.size, 0, none⟩) 0 0) (w.alloc (.cells (zB 0) 4)) := make41 0 (by omega)
  go_enter Try.func33, Try.ntmps33
  go_wp2
  go_cut [] (fun wc => ∃ ba bb, PInv w w.heap.size v0 v1 v2 v3 0 ba bb (fun _ => 0) (fun _ => false) wc)
  case first =>
    go_region
    all_goals
      go_step
      go_step
      go_meet
    case rel => exact first_ab ..
    case rel => exact first_ba ..
  case rest =>
    obtain ⟨ba, bb, hI⟩ := hcut
    have p0 := hI.p0
    have p1 := hI.p1
    have q0 := hI.q0
    have q1 := hI.q1
    have hbel : Hid (Below w.heap.size w wc) := hI.below
    clear hm1 hm2 hI
    go_wp2
    refine wp_loop_rounds 1 ?_
    rw [rounds_succ]
    go_wp2
    refine bodyPost_ret (v := .tuple #[.agg #[.slice none 0 0, .slice none 0 0], .bool false]) ?_ rfl ?_
    · simp [results, Try.results33, go_sem, p0, p1]
    · exact ⟨(hbel.out.setCell (by show w.heap.size ≤ w.heap.size + 1 + 1; omega) _).setCell (by show w.heap.size ≤ w.heap.size + 1 + 1; omega) _, rfl⟩

theorem below_two {w w1 : World} {o1 o2 : Obj} (hb : Below ((w.alloc o1).alloc o2).heap.size ((w.alloc o1).alloc o2) w1) : Below w.heap.size w w1 :=
  (((Below.refl w.heap.size w).alloc (Nat.le_refl _) o1).alloc (by simp) o2).trans (hb.mono (by simp; omega))
theorem FAt.alloc {w : World} {b f n : Nat} {x : Nat → Nat} {o : Obj} (h : FAt w b f n x) (hb : b < w.heap.size) : FAt (w.alloc o) b f n x := fun i hi => by
  rw [World.cell?_alloc_past _ _ _ hb]; exact h i hi
theorem BAt.alloc {w : World} {b f n : Nat} {x : Nat → Bool} {o : Obj} (h : BAt w b f n x) (hb : b < w.heap.size) : BAt (w.alloc o) b f n x := fun i hi => by
  rw [World.cell?_alloc_past _ _ _ hb]; exact h i hi
theorem lt_of_cell {w : World} {b o : Nat} {v : Value} (h : w.cell? ⟨b, o, none⟩ = some v) : b < w.heap.size := by
  by_cases hb : b < w.heap.size
  · exact hb
  · unfold World.cell? at h
    have : w.heap[b]? = none := by simp; omega
    simp [this] at h
theorem FAt.lt {w : World} {b f n s : Nat} {x : Nat → Nat} (h : FAt w b f n x) (hs : s < n) : b < w.heap.size := lt_of_cell (h s hs)
theorem BAt.lt {w : World} {b f n s : Nat} {x : Nat → Bool} (h : BAt w b f n x) (hs : s < n) : b < w.heap.size := lt_of_cell (h s hs)

theorem zz_zero (v0 v1 v2 v3 : Value) (a : Option Addr) (c : Nat) (w : World) :
    Calls Try.prog 26 #[.agg #[v0, v1], .agg #[v2, v3], .slice a 0 c] w fun e w' => Below w.heap.size w w' ∧ e = .returned (.tuple #[.slice none 0 0, .slice none 0 0, .bool false]) := by
  go_enter Try.func26, Try.ntmps26
  go_wp2_with fail
  refine (par_zero _ _ _ _ _ _ _).mono ?_
  rintro e w1 ⟨hb, rfl⟩
  go_wp2
  go_quiet (fail)
  go_wp2
  go_ret3
  have hs := hb.size
  simp at hs
  exact ⟨below_drewN ((below_two hb).alloc (by omega) _) _, rfl⟩

def ZPost (n : Nat) (en lo hi : Nat → Nat) (e : Ending) (w' : World) : Prop :=
  ((∀ i, i < n → msF en lo hi i = false) ∧ e = .returned (.tuple #[.slice none 0 0, .slice none 0 0, .bool false])) ∨
  ∃ s ba bb, s < n ∧ msF en lo hi s = true ∧ (∀ i, i < s → msF en lo hi i = false) ∧
    e = .returned (.tuple #[.slice (some ⟨ba, 0, none⟩) n n, .slice (some ⟨bb, 0, none⟩) n n, .bool true]) ∧
    FAt w' ba 0 n (atF en lo hi) ∧ BAt w' bb 0 n (fun i => if i = s then !blF en lo hi i else blF en lo hi i)

set_option maxHeartbeats 400000 in
theorem zz_some (b0 f0 b1 f1 b2 f2 b3 f3 b f n c0 c1 c2 c3 c : Nat) (zl zh bl bh en lo hi : Nat → Nat) (w : World) (hn : n ≤ 1048576)
    (h0 : FAt w b0 f0 n zl) (h1 : FAt w b1 f1 n zh) (h2 : FAt w b2 f2 n bl) (h3 : FAt w b3 f3 n bh) (h4 : FAt w b f n en)
    (k0 : b0 < w.heap.size) (k1 : b1 < w.heap.size) (k2 : b2 < w.heap.size) (k3 : b3 < w.heap.size) (k4 : b < w.heap.size)
    (hlo : ∀ i, i < n → ∀ ts t w, (Builtin.max_ ts t #[.float .f64 (zl i), .float .f64 (bl i)]).run Try.prog w = .ok (.float .f64 (lo i)) w)
    (hhi : ∀ i, i < n → ∀ ts t w, (Builtin.min_ ts t #[.float .f64 (zh i), .float .f64 (bh i)]).run Try.prog w = .ok (.float .f64 (hi i)) w) :
    Calls Try.prog 26 #[.agg #[.slice (some ⟨b0, f0, none⟩) n c0, .slice (some ⟨b1, f1, none⟩) n c1], .agg #[.slice (some ⟨b2, f2, none⟩) n c2, .slice (some ⟨b3, f3, none⟩) n c3], .slice (some ⟨b, f, none⟩) n c] w fun e w' => Below w.heap.size w w' ∧ ZPost n en lo hi e w' := by
  go_enter Try.func26, Try.ntmps26
  go_wp2_with fail
  refine (par_some b0 f0 b1 f1 b2 f2 b3 f3 b f n c0 c1 c2 c3 c zl zh bl bh en lo hi _ hn ?_ ?_ ?_ ?_ ?_ ?_ ?_ ?_ ?_ ?_ hlo hhi).mono ?_
  · exact (h0.alloc k0).alloc (by simp; omega)
  · exact (h1.alloc k1).alloc (by simp; omega)
  · exact (h2.alloc k2).alloc (by simp; omega)
  · exact (h3.alloc k3).alloc (by simp; omega)
  · exact (h4.alloc k4).alloc (by simp; omega)
  · simp; omega
  · simp; omega
  · simp; omega
  · simp; omega
  · simp; omega
  clear h0 h1 h2 h3 h4 k0 k1 k2 k3 k4 hlo hhi
  rintro e w1 ⟨hb, ⟨hm, rfl⟩ | ⟨s, ba, bb, s1, s2, s3, rfl, xa, xb⟩⟩
  · have HM : Hid (∀ i, i < n → msF en lo hi i = false) := hm
    have HB : Hid (Below w.heap.size w w1) := below_two hb
    have hs := HB.out.size
    clear hm hb
    go_wp2
    go_quiet (fail)
    go_wp2
    go_ret3
    exact ⟨below_drewN (HB.out.alloc (by omega) _) _, .inl ⟨HM.out, rfl⟩⟩
  · have S : Hid (msF en lo hi s = true ∧ (∀ i, i < s → msF en lo hi i = false) ∧ FAt w1 ba 0 n (atF en lo hi) ∧ BAt w1 bb 0 n (fun i => if i = s then !blF en lo hi i else blF en lo hi i)) := ⟨s2, s3, xa, xb⟩
    have HB : Hid (Below w.heap.size w w1) := below_two hb
    have hs := HB.out.size
    clear s2 s3 xa xb hb
    go_wp2
    go_quiet (fail)
    go_wp2
    go_ret3
    obtain ⟨s2, s3, xa, xb⟩ := S.out
    exact ⟨below_drewN (HB.out.alloc (by omega) _) _, .inr ⟨s, ba, bb, s1, s2, s3, rfl, (xa.alloc (xa.lt s1)).drewN, (xb.alloc (xb.lt s1)).drewN⟩⟩
end Go.Proofs.Qxb6600053a
