/-
  PLAIN: comparisons of words by their keys; 180 and -180; a word against itself; one over a zero.
-/
import Derived.Test.Qxb6604197aFlt
namespace Fl
open Ieee

theorem ord {x y : Nat} {a b : Int} (hx : key x = some a) (hy : key y = some b) : double.order x y = some (compare a b) := by rw [order_key, hx, hy]
theorem ord_lt {x y : Nat} {a b : Int} (hx : key x = some a) (hy : key y = some b) (h : a < b) : double.order x y = some .lt := by rw [ord hx hy, cmp_lt h]
theorem ord_gt {x y : Nat} {a b : Int} (hx : key x = some a) (hy : key y = some b) (h : b < a) : double.order x y = some .gt := by rw [ord hx hy, cmp_gt h]
theorem ord_eq {x y : Nat} {a b : Int} (hx : key x = some a) (hy : key y = some b) (h : a = b) : double.order x y = some .eq := by rw [ord hx hy, cmp_eq h]
theorem ord_nan_l {x y : Nat} (hx : key x = none) : double.order x y = none := by rw [order_key, hx]
theorem ord_nan_r {x y : Nat} (hy : key y = none) : double.order x y = none := by rw [order_key, hy]; cases key x <;> rfl

theorem lt_of_ord {x y : Nat} (h : double.order x y = some .lt) : ∃ a b, key x = some a ∧ key y = some b ∧ a < b := by
  cases hx : key x with
  | none => rw [ord_nan_l hx] at h; cases h
  | some a =>
    cases hy : key y with
    | none => rw [ord_nan_r hy] at h; cases h
    | some b =>
      refine ⟨a, b, rfl, rfl, ?_⟩
      rw [ord hx hy] at h
      rcases Int.lt_trichotomy a b with h1 | h1 | h1
      · exact h1
      · rw [cmp_eq h1] at h; cases h
      · rw [cmp_gt h1] at h; cases h
theorem gt_of_ord {x y : Nat} (h : double.order x y = some .gt) : ∃ a b, key x = some a ∧ key y = some b ∧ b < a := by
  cases hx : key x with
  | none => rw [ord_nan_l hx] at h; cases h
  | some a =>
    cases hy : key y with
    | none => rw [ord_nan_r hy] at h; cases h
    | some b =>
      refine ⟨a, b, rfl, rfl, ?_⟩
      rw [ord hx hy] at h
      rcases Int.lt_trichotomy a b with h1 | h1 | h1
      · rw [cmp_lt h1] at h; cases h
      · rw [cmp_eq h1] at h; cases h
      · exact h1
theorem eq_of_ord {x y : Nat} (h : double.order x y = some .eq) : ∃ a b, key x = some a ∧ key y = some b ∧ a = b := by
  cases hx : key x with
  | none => rw [ord_nan_l hx] at h; cases h
  | some a =>
    cases hy : key y with
    | none => rw [ord_nan_r hy] at h; cases h
    | some b =>
      refine ⟨a, b, rfl, rfl, ?_⟩
      rw [ord hx hy] at h
      rcases Int.lt_trichotomy a b with h1 | h1 | h1
      · rw [cmp_lt h1] at h; cases h
      · exact h1
      · rw [cmp_gt h1] at h; cases h

theorem read_180 : double.read 4640537203540230144 = .number false 6333186975989760 (-45) := by decide
theorem read_m180 : double.read 13863909240395005952 = .number true 6333186975989760 (-45) := by decide

theorem signed_pos (m u : Nat) (h : 0 < m) : 0 < signed false m u := by
  rw [signed_eq]
  simp only [Bool.false_eq_true, if_false, Int.one_mul]
  exact Int.mul_pos (by omega) (Int.pow_pos (by decide))
theorem signed_neg (m u : Nat) : signed true m u = -signed false m u := by
  rw [signed_eq, signed_eq]
  simp

theorem key_180 : ∃ K : Int, 0 < K ∧ key 4640537203540230144 = some K ∧ key 13863909240395005952 = some (-K) := by
  refine ⟨signed false 6333186975989760 1029, ?_, ?_, ?_⟩
  · exact signed_pos _ _ (by decide)
  · unfold key; rw [read_180]; rfl
  · unfold key; rw [read_m180]
    show some (signed true 6333186975989760 1029) = _
    rw [signed_neg]

/-- A longitude: from -180 to 180, both ends in. -/
def okLon (x : Nat) : Bool := (double.order x 13863909240395005952 == some .gt || double.order x 13863909240395005952 == some .eq) && (double.order x 4640537203540230144 == some .lt || double.order x 4640537203540230144 == some .eq)

theorem okLon_key {x : Nat} (h : okLon x = true) {K : Int} (hK : key 4640537203540230144 = some K) (hM : key 13863909240395005952 = some (-K)) : ∃ a, key x = some a ∧ -K ≤ a ∧ a ≤ K := by
  unfold okLon at h
  simp only [Bool.and_eq_true, Bool.or_eq_true, beq_iff_eq] at h
  obtain ⟨h1, h2⟩ := h
  have g1 : ∃ a, key x = some a ∧ -K ≤ a := by
    rcases h1 with h1 | h1
    · obtain ⟨a, b, ha, hb, hl⟩ := gt_of_ord h1
      rw [hM] at hb; cases hb; exact ⟨a, ha, by omega⟩
    · obtain ⟨a, b, ha, hb, hl⟩ := eq_of_ord h1
      rw [hM] at hb; cases hb; exact ⟨a, ha, by omega⟩
  obtain ⟨a, ha, hl⟩ := g1
  refine ⟨a, ha, hl, ?_⟩
  rcases h2 with h2 | h2
  · obtain ⟨c, b, hc, hb, hl2⟩ := lt_of_ord h2
    rw [hK] at hb; rw [ha] at hc; cases hb; cases hc; omega
  · obtain ⟨c, b, hc, hb, hl2⟩ := eq_of_ord h2
    rw [hK] at hb; rw [ha] at hc; cases hb; cases hc; omega

theorem key_zero : key 0 = some 0 := by
  have : double.read 0 = .number false 0 (-1074) := by decide
  unfold key; rw [this]; rfl

/-- One over a zero is an infinity, which equals itself. -/
theorem inv_zero {x : Nat} (h : double.order x 0 = some .eq) : ∃ r, double.div 4607182418800017408 x = some r ∧ double.order r r = some .eq := by
  obtain ⟨a, b, ha, hb, e⟩ := eq_of_ord h
  rw [key_zero] at hb
  cases hb
  subst e
  have hr : ∃ s i, double.read x = .number s 0 i := by
    unfold key at ha
    cases hx : double.read x with
    | nan s f => rw [hx] at ha; cases ha
    | infinity s =>
      rw [hx] at ha
      have := huge_pos
      cases s <;> simp [val] at ha <;> omega
    | number s m i =>
      rw [hx] at ha
      simp only [val, Option.some.injEq] at ha
      rw [signed_eq] at ha
      have hp : (0 : Int) < 2 ^ (i + 1074).toNat := Int.pow_pos (by decide)
      have hm : (m : Int) * 2 ^ (i + 1074).toNat = 0 := by cases s <;> simp at ha ⊢ <;> omega
      have : (m : Int) = 0 := by
        rcases Int.mul_eq_zero.1 hm with h1 | h1
        · exact h1
        · omega
      have : m = 0 := by omega
      subst this
      exact ⟨s, i, rfl⟩
  obtain ⟨s, i, hx⟩ := hr
  have h1 : double.read 4607182418800017408 = .number false 4503599627370496 (-52) := by decide
  have hq : ∀ d, Datum.quotient d (.number false 4503599627370496 (-52)) (.number s 0 i) = some (.infinity (false ^^ s)) := fun d => by simp [Datum.quotient]
  cases s
  · refine ⟨9218868437227405312, ?_, by decide⟩
    unfold Format.div
    rw [hx, h1, hq]
    decide
  · refine ⟨18442240474082181120, ?_, by decide⟩
    unfold Format.div
    rw [hx, h1, hq]
    decide

end Fl
