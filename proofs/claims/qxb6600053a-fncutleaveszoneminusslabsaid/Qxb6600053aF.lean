import GoSem.Core.Float
namespace Go.Proofs.Qxb6600053a

/-! ### The order of floats is the order of whole numbers -/
open Ieee in
/-- beyond every finite float -/
def big : Int := 2 ^ 3000

open Ieee in
def keyD : Datum → Option Int
  | .nan .. => none
  | .infinity s => some (if s then -big else big)
  | .number s m i => some (signed s m (i - double.leastPlace).toNat)

/-- the whole number that a float64 stands for, in units of the least one; none: a NaN -/
def key (x : Nat) : Option Int := keyD (Ieee.double.read x)

open Ieee in
/-- a number as 'read' gives it -/
def Fine : Datum → Prop
  | .number _ m i => m < 2 ^ 53 ∧ double.leastPlace ≤ i ∧ (i - double.leastPlace).toNat ≤ 2046
  | _ => True

open Ieee in
theorem fine_read (x : Nat) : Fine (double.read x) := by
  unfold Format.read
  simp only
  have hb : double.binade = 2 ^ 52 := rfl
  have hi : double.infRung = 2047 * 2 ^ 52 := rfl
  split
  · rename_i h
    rw [hb] at h
    exact ⟨by omega, Int.le_refl _, by simp⟩
  · split
    · rename_i h1 h2
      rw [hi] at h2
      rw [hb] at h1
      refine ⟨?_, ?_, ?_⟩
      · rw [hb]; omega
      · omega
      · rw [hb]
        have : x % double.signWeight / 2 ^ 52 ≤ 2046 := by omega
        omega
    · split <;> trivial

open Ieee in
theorem signed_add (s : Bool) (m a c : Nat) : signed s m (a + c) = signed s m a * 2 ^ c := by
  unfold signed
  simp only [Nat.shiftLeft_eq, Nat.pow_add]
  split
  · push_cast; rw [Int.neg_mul, Int.mul_assoc]
  · push_cast; rw [Int.mul_assoc]

set_option exponentiation.threshold 5000 in
open Ieee in
theorem signed_lt (s : Bool) (m a : Nat) (hm : m < 2 ^ 53) (ha : a ≤ 2046) : signed s m a < big ∧ -big < signed s m a := by
  have h : m <<< a < 2 ^ 3000 := by
    rw [Nat.shiftLeft_eq]
    calc m * 2 ^ a < 2 ^ 53 * 2 ^ a := Nat.mul_lt_mul_of_pos_right hm (Nat.pow_pos (by omega))
      _ ≤ 2 ^ 53 * 2 ^ 2046 := Nat.mul_le_mul_left _ (Nat.pow_le_pow_right (by omega) ha)
      _ = 2 ^ (53 + 2046) := (Nat.pow_add _ _ _).symm
      _ ≤ 2 ^ 3000 := Nat.pow_le_pow_right (by omega) (by omega)
  have h' : ((m <<< a : Nat) : Int) < big := by
    unfold big
    exact_mod_cast h
  have h0 : (0 : Int) ≤ ((m <<< a : Nat) : Int) := Int.natCast_nonneg _
  unfold signed
  split <;> constructor <;> omega

theorem compare_mul (a b K : Int) (hK : 0 < K) : compare (a * K) (b * K) = compare a b := by
  simp only [compare, compareOfLessAndEq]
  have h1 : (a * K < b * K) = (a < b) := propext ⟨fun h => Int.lt_of_mul_lt_mul_right h (Int.le_of_lt hK), fun h => Int.mul_lt_mul_of_pos_right h hK⟩
  have h2 : (a * K = b * K) = (a = b) := propext ⟨fun h => Int.eq_of_mul_eq_mul_right (Int.ne_of_gt hK) h, fun h => by rw [h]⟩
  simp only [h1, h2]

def cmpO : Option Int → Option Int → Option Ordering
  | some a, some b => some (compare a b)
  | _, _ => none

theorem cmp_lt {a b : Int} (h : a < b) : compare a b = .lt := by simp [compare, compareOfLessAndEq, h]
theorem cmp_gt {a b : Int} (h : b < a) : compare a b = .gt := by
  have h1 : ¬ a < b := by omega
  have h2 : ¬ a = b := by omega
  simp [compare, compareOfLessAndEq, h1, h2]
theorem cmp_eq {a b : Int} (h : a = b) : compare a b = .eq := by
  simp [compare, compareOfLessAndEq, h]

theorem big_pos : (0 : Int) < big := Int.pow_pos (by omega)

open Ieee in
theorem order_key_d (d e : Datum) (hd : Fine d) (he : Fine e) : d.order e = cmpO (keyD d) (keyD e) := by
  have hbig := big_pos
  match d, e with
  | .nan .., .nan .. => rfl
  | .nan .., .infinity _ => rfl
  | .nan .., .number .. => rfl
  | .infinity _, .nan .. => rfl
  | .number .., .nan .. => rfl
  | .infinity s, .infinity t =>
    cases s <;> cases t <;> simp only [Datum.order, keyD, cmpO, if_true, if_false, Bool.false_eq_true]
    · rw [cmp_eq (a := big) (b := big) rfl]; rfl
    · rw [cmp_gt (a := big) (b := -big) (by omega)]; rfl
    · rw [cmp_lt (a := -big) (b := big) (by omega)]; rfl
    · rw [cmp_eq (a := -big) (b := -big) rfl]; rfl
  | .infinity s, .number t n j =>
    obtain ⟨h1, h2⟩ := signed_lt t n _ he.1 he.2.2
    cases s <;> simp only [Datum.order, keyD, cmpO, if_true, if_false, Bool.false_eq_true]
    · rw [cmp_gt h1]
    · rw [cmp_lt h2]
  | .number s m i, .infinity t =>
    obtain ⟨h1, h2⟩ := signed_lt s m _ hd.1 hd.2.2
    cases t <;> simp only [Datum.order, keyD, cmpO, if_true, if_false, Bool.false_eq_true]
    · rw [cmp_lt h1]
    · rw [cmp_gt h2]
  | .number s m i, .number t n j =>
    simp only [Datum.order, keyD, cmpO]
    have hi := hd.2.1
    have hj := he.2.1
    have e1 : (i - double.leastPlace).toNat = (i - min i j).toNat + (min i j - double.leastPlace).toNat := by omega
    have e2 : (j - double.leastPlace).toNat = (j - min i j).toNat + (min i j - double.leastPlace).toNat := by omega
    rw [e1, e2, signed_add, signed_add, compare_mul _ _ _ (Int.pow_pos (by omega))]

theorem order_key (x y : Nat) : FloatKind.f64.format.order x y = cmpO (key x) (key y) := order_key_d _ _ (fine_read x) (fine_read y)

/-! ### the three tests -/
theorem ord_lt {x y : Nat} : FloatKind.f64.format.order x y = some .lt ↔ ∃ a b, key x = some a ∧ key y = some b ∧ a < b := by
  rw [order_key]
  cases hx : key x <;> cases hy : key y <;> simp [cmpO, Int.compare_eq_lt]
theorem ord_eq {x y : Nat} : FloatKind.f64.format.order x y = some .eq ↔ ∃ a, key x = some a ∧ key y = some a := by
  rw [order_key]
  cases hx : key x <;> cases hy : key y <;> simp only [cmpO]
  · simp
  · simp
  · simp
  · rename_i a b
    constructor
    · intro h
      have := Int.compare_eq_eq.1 (Option.some.inj h)
      exact ⟨a, rfl, by rw [this]⟩
    · rintro ⟨c, h1, h2⟩
      rw [Option.some.inj h1, Option.some.inj h2, cmp_eq rfl]
theorem ord_gt {x y : Nat} : FloatKind.f64.format.order x y = some .gt ↔ ∃ a b, key x = some a ∧ key y = some b ∧ b < a := by
  rw [order_key]
  cases hx : key x <;> cases hy : key y <;> simp [cmpO, Int.compare_eq_gt]

end Go.Proofs.Qxb6600053a
