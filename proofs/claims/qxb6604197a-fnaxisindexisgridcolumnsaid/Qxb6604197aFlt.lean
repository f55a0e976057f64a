/-
  PLAIN: IEEE doubles as integers. A finite double is a whole number of units of 2^-1074: 'val'. An infinity is given a number beyond all finite ones. Then 'order' is the order of those integers.
-/
import Ieee.Arith
namespace Fl
open Ieee

/-- Beyond every finite double, in units of 2^-1074. -/
def hugeE : Nat := 2200
def huge : Int := ((2 ^ hugeE : Nat) : Int)

/-- A datum in units of 2^-1074. -/
def val : Datum → Int
  | .number s m i => signed s m (i + 1074).toNat
  | .infinity s => if s then -huge else huge
  | .nan _ _ => 0

def isNaN (x : Nat) : Bool := (double.read x).isNaN
/-- What a word is worth, 'none' for a NaN. -/
def key (x : Nat) : Option Int := match double.read x with
  | .nan _ _ => none
  | d => some (val d)

theorem signed_eq (s : Bool) (m u : Nat) : signed s m u = (if s then -1 else 1) * ((m : Int) * 2 ^ u) := by
  unfold signed
  rw [Nat.shiftLeft_eq]
  cases s <;> simp

theorem signed_add (s : Bool) (m u k : Nat) : signed s m (u + k) = signed s m u * 2 ^ k := by
  rw [signed_eq, signed_eq, Int.pow_add, Int.mul_assoc, Int.mul_assoc]

theorem leastPlace_double : double.leastPlace = -1074 := by decide
theorem binade_double : double.binade = 2 ^ 52 := rfl

/-- The shape of what is read: a finite number's place is at least -1074 and at most 971, its magnitude below 2^53. -/
theorem read_number {x : Nat} {s : Bool} {m : Nat} {i : Int} (h : double.read x = .number s m i) : -1074 ≤ i ∧ i ≤ 971 ∧ m < 2 ^ 53 := by
  unfold Format.read at h
  dsimp only at h
  have hb : double.binade = 4503599627370496 := by decide
  have hl : double.leastPlace = -1074 := leastPlace_double
  have hi : double.infRung = 9218868437227405312 := by decide
  rw [hb, hl, hi] at h
  generalize x % double.signWeight = r at h
  split at h
  · simp only [Datum.number.injEq] at h
    omega
  · split at h
    · simp only [Datum.number.injEq] at h
      omega
    · split at h <;> cases h

theorem huge_pos : 0 < huge := by unfold huge; exact Int.natCast_pos.2 (Nat.two_pow_pos _)

theorem signed_lt (s : Bool) (m : Nat) (i : Int) (hi : i ≤ 971) (hm : m < 2 ^ 53) : -huge < signed s m (i + 1074).toNat ∧ signed s m (i + 1074).toNat < huge := by
  have h0 : 53 + (i + 1074).toNat < hugeE := by unfold hugeE; omega
  have h1 : m * 2 ^ (i + 1074).toNat < 2 ^ hugeE := by
    refine Nat.lt_of_le_of_lt (Nat.mul_le_mul_right _ (Nat.le_of_lt hm)) ?_
    rw [← Nat.pow_add]
    exact Nat.pow_lt_pow_right (by decide) h0
  have h2 : ((m * 2 ^ (i + 1074).toNat : Nat) : Int) < huge := by
    unfold huge
    exact Int.ofNat_lt.2 h1
  have h3 : (0 : Int) ≤ ((m * 2 ^ (i + 1074).toNat : Nat) : Int) := Int.natCast_nonneg _
  rw [Int.natCast_mul, Int.natCast_pow, show ((2 : Nat) : Int) = 2 from rfl] at h2 h3
  rw [signed_eq]
  generalize (m : Int) * 2 ^ (i + 1074).toNat = q at h2 h3
  generalize huge = g at h2
  cases s
  · simp only [Bool.false_eq_true, if_false]; omega
  · simp only [if_true]; omega

theorem cmp_lt {a b : Int} (h : a < b) : compare a b = .lt := by simp only [compare, compareOfLessAndEq]; rw [if_pos h]
theorem cmp_gt {a b : Int} (h : b < a) : compare a b = .gt := by simp only [compare, compareOfLessAndEq]; rw [if_neg (by omega), if_neg (by omega)]
theorem cmp_eq {a b : Int} (h : a = b) : compare a b = .eq := by simp only [compare, compareOfLessAndEq]; rw [if_neg (by omega), if_pos h]

theorem compare_mul (a b c : Int) (hc : 0 < c) : compare (a * c) (b * c) = compare a b := by
  simp only [compare, compareOfLessAndEq]
  have h1 : a * c < b * c ↔ a < b := ⟨fun h => Int.lt_of_mul_lt_mul_right h (Int.le_of_lt hc), fun h => Int.mul_lt_mul_of_pos_right h hc⟩
  have h2 : a * c = b * c ↔ a = b := ⟨fun h => Int.eq_of_mul_eq_mul_right (by omega) h, fun h => by rw [h]⟩
  simp only [h1, h2]

theorem order_key (x y : Nat) : double.order x y = match key x, key y with
    | some a, some b => some (compare a b)
    | _, _ => none := by
  unfold Format.order key
  cases hx : double.read x with
  | nan s f => cases hy : double.read y <;> simp [Datum.order]
  | infinity s =>
    cases hy : double.read y with
    | nan t f => simp [Datum.order]
    | infinity t =>
      have hp := huge_pos
      simp only [Datum.order, val]
      generalize huge = g at hp
      cases s <;> cases t
      · exact congrArg some (cmp_eq rfl).symm
      · exact congrArg some (cmp_gt (by simp only [if_true, Bool.false_eq_true, if_false]; omega)).symm
      · exact congrArg some (cmp_lt (by simp only [if_true, Bool.false_eq_true, if_false]; omega)).symm
      · exact congrArg some (cmp_eq rfl).symm
    | number t n j =>
      have hb := read_number hy
      have hs := signed_lt t n j hb.2.1 hb.2.2
      simp only [Datum.order, val]
      cases s
      · exact congrArg some (cmp_gt hs.2).symm
      · exact congrArg some (cmp_lt hs.1).symm
  | number s m i =>
    have ha := read_number hx
    cases hy : double.read y with
    | nan t f => simp [Datum.order]
    | infinity t =>
      have hs := signed_lt s m i ha.2.1 ha.2.2
      simp only [Datum.order, val]
      cases t
      · exact congrArg some (cmp_lt hs.2).symm
      · exact congrArg some (cmp_gt hs.1).symm
    | number t n j =>
      have hb := read_number hy
      simp only [Datum.order, val]
      have e1 : (i + 1074).toNat = (i - min i j).toNat + (min i j + 1074).toNat := by omega
      have e2 : (j + 1074).toNat = (j - min i j).toNat + (min i j + 1074).toNat := by omega
      rw [e1, e2, signed_add, signed_add, compare_mul _ _ _ (Int.pow_pos (by decide))]

end Fl
