/-
  PLAIN: + - * and / by a power of two, exact where the exact result is a double.
-/
import Derived.Test.Qxb6604197aExact
namespace Fl
open Ieee

/-- The integer is a double's worth. -/
def Rep (V : Int) : Prop := ∃ q z, q < 2 ^ 53 ∧ z ≤ 2045 ∧ V.natAbs = q * 2 ^ z

def M0 : Nat := 1074
def D0 : Nat := 852

theorem signed_val (s : Bool) (m u : Nat) : signed s m u = (if s then -1 else 1) * ((m * 2 ^ u : Nat) : Int) := by
  rw [signed_eq, Int.natCast_mul, Int.natCast_pow]
  rfl

theorem signed_natAbs (s : Bool) (m u : Nat) : (signed s m u).natAbs = m * 2 ^ u := by
  rw [signed_val]
  cases s
  · simp only [Bool.false_eq_true, if_false, Int.one_mul, Int.natAbs_natCast]
  · simp only [if_true, Int.neg_mul, Int.one_mul, Int.natAbs_neg, Int.natAbs_natCast]

theorem nearest_isF (neg : Bool) (mag : Nat) (place : Int) (P : Nat) (V : Int) (hP : place = (P : Int) - 3000) (hR : Rep V) (h : mag * 2 ^ P = V.natAbs * 2 ^ E0)
    (hs : V = (if neg then -1 else 1) * (V.natAbs : Int)) : IsF (double.nearest neg mag place) V := by
  obtain ⟨q, z, hq, hz, hV⟩ := hR
  obtain ⟨m, i, hr, hm⟩ := nearest_exact neg mag place P q z hP hq hz (by rw [h, hV, Nat.pow_add, Nat.mul_assoc])
  refine ⟨neg, m, i, hr, ?_⟩
  rw [signed_val, hm, ← hV]
  exact hs.symm

theorem natAbs_mul_pow (a : Int) (k : Nat) : (a * 2 ^ k).natAbs = a.natAbs * 2 ^ k := by
  rw [Int.natAbs_mul, Int.natAbs_pow]
  rfl

theorem sum_exact {s t : Bool} {m n : Nat} {i j : Int} (hi : -1074 ≤ i) (hj : -1074 ≤ j) (hR : Rep (signed s m (i + 1074).toNat + signed t n (j + 1074).toNat)) :
    ∃ d, Datum.sum (.number s m i) (.number t n j) = some d ∧ IsF (double.write d) (signed s m (i + 1074).toNat + signed t n (j + 1074).toNat) := by
  refine ⟨_, rfl, ?_⟩
  have hE : E0 = 1926 := rfl
  generalize hB : min i j = base
  have e1 : (i + 1074).toNat = (i - base).toNat + (base + 1074).toNat := by omega
  have e2 : (j + 1074).toNat = (j - base).toNat + (base + 1074).toNat := by omega
  rw [e1, e2, signed_add, signed_add, ← Int.add_mul] at hR ⊢
  generalize signed s m (i - base).toNat + signed t n (j - base).toNat = total at hR ⊢
  show IsF (double.nearest (if total = 0 then s && t else decide (total < 0)) total.natAbs base) (total * 2 ^ (base + 1074).toNat)
  refine nearest_isF _ _ _ ((base + 1074).toNat + E0) _ (by omega) hR ?_ ?_
  · rw [natAbs_mul_pow, Nat.pow_add, Nat.mul_assoc]
  · rw [natAbs_mul_pow]
    have hp : (0 : Int) < 2 ^ (base + 1074).toNat := Int.pow_pos (by decide)
    rw [Int.natCast_mul, Int.natCast_pow, show ((2 : Nat) : Int) = 2 from rfl, ← Int.mul_assoc]
    congr 1
    by_cases h0 : total = 0
    · subst h0; simp
    · rw [if_neg h0]
      by_cases h1 : total < 0
      · simp only [h1, decide_true, if_true]; omega
      · simp only [h1, decide_false, Bool.false_eq_true, if_false]; omega

theorem add_exact {x y : Nat} {V W : Int} (hx : IsF x V) (hy : IsF y W) (hR : Rep (V + W)) : ∃ r, double.add x y = some r ∧ IsF r (V + W) := by
  obtain ⟨s, m, i, hx, rfl⟩ := hx
  obtain ⟨t, n, j, hy, rfl⟩ := hy
  obtain ⟨d, hd, hf⟩ := sum_exact (read_number hx).1 (read_number hy).1 hR
  refine ⟨double.write d, ?_, hf⟩
  unfold Format.add
  rw [hx, hy, hd]
  rfl

theorem signed_opp (t : Bool) (n u : Nat) : signed (!t) n u = -signed t n u := by
  rw [signed_eq, signed_eq]
  cases t <;> simp

theorem sub_exact {x y : Nat} {V W : Int} (hx : IsF x V) (hy : IsF y W) (hR : Rep (V - W)) : ∃ r, double.sub x y = some r ∧ IsF r (V - W) := by
  obtain ⟨s, m, i, hx, rfl⟩ := hx
  obtain ⟨t, n, j, hy, rfl⟩ := hy
  have e : signed s m (i + 1074).toNat - signed t n (j + 1074).toNat = signed s m (i + 1074).toNat + signed (!t) n (j + 1074).toNat := by rw [signed_opp]; omega
  rw [e] at hR ⊢
  obtain ⟨d, hd, hf⟩ := sum_exact (read_number hx).1 (read_number hy).1 hR
  refine ⟨double.write d, ?_, hf⟩
  unfold Format.sub
  rw [hx, hy]
  show (Datum.sum (.number s m i) (.number (!t) n j)).map double.write = _
  rw [hd]
  rfl

theorem mul_exact {x y : Nat} {V W R : Int} (hx : IsF x V) (hy : IsF y W) (h : V * W = R * 2 ^ M0) (hR : Rep R) : ∃ r, double.mul x y = some r ∧ IsF r R := by
  obtain ⟨s, m, i, hx, rfl⟩ := hx
  obtain ⟨t, n, j, hy, rfl⟩ := hy
  have hE : E0 = 1926 := rfl
  have hM : M0 = 1074 := rfl
  have bi := (read_number hx).1
  have bj := (read_number hy).1
  refine ⟨double.write (.number (s ^^ t) (m * n) (i + j)), ?_, ?_⟩
  · unfold Format.mul
    rw [hx, hy]
    rfl
  · show IsF (double.nearest (s ^^ t) (m * n) (i + j)) R
    have hA := congrArg Int.natAbs h
    rw [Int.natAbs_mul, signed_natAbs, signed_natAbs, natAbs_mul_pow] at hA
    have hD : D0 = 852 := rfl
    refine nearest_isF _ _ _ ((i + 1074).toNat + (j + 1074).toNat + D0) R (by omega) hR ?_ ?_
    · have e : m * n * 2 ^ ((i + 1074).toNat + (j + 1074).toNat + D0) = (m * 2 ^ (i + 1074).toNat * (n * 2 ^ (j + 1074).toNat)) * 2 ^ D0 := by
        rw [Nat.pow_add, Nat.pow_add]
        generalize 2 ^ (i + 1074).toNat = X
        generalize 2 ^ (j + 1074).toNat = Y
        generalize 2 ^ D0 = Z
        ac_rfl
      rw [e, hA, Nat.mul_assoc, ← Nat.pow_add, show M0 + D0 = E0 from by omega]
    · have hp : (0 : Int) < 2 ^ M0 := Int.pow_pos (by decide)
      have hv : R * 2 ^ M0 = ((if (s ^^ t) then -1 else 1) * (R.natAbs : Int)) * 2 ^ M0 := by
        rw [← h, signed_val, signed_val, Int.mul_assoc _ (R.natAbs : Int)]
        have hA' : ((m * 2 ^ (i + 1074).toNat * (n * 2 ^ (j + 1074).toNat) : Nat) : Int) = (R.natAbs : Int) * 2 ^ M0 := by
          rw [hA, Int.natCast_mul, Int.natCast_pow]; rfl
        rw [← hA', Int.natCast_mul (m * 2 ^ (i + 1074).toNat)]
        generalize ((m * 2 ^ (i + 1074).toNat : Nat) : Int) = A
        generalize ((n * 2 ^ (j + 1074).toNat : Nat) : Int) = B
        cases s <;> cases t <;> simp [Int.neg_mul, Int.mul_neg]
      exact Int.eq_of_mul_eq_mul_right (by omega) hv

theorem div_exact {x c p : Nat} {V R : Int} (hx : IsF x V) (hc : double.read c = .number false 4503599627370496 ((p : Int) - 52)) (hp : p ≤ 60) (h : V = R * 2 ^ p) (hR : Rep R) :
    ∃ r, double.div x c = some r ∧ IsF r R := by
  obtain ⟨s, m, i, hx, rfl⟩ := hx
  have hE : E0 = 1926 := rfl
  have bi := read_number hx
  have hl : Nat.log2 4503599627370496 = 52 := by decide
  have hlm : m.log2 ≤ 52 := by
    by_cases h0 : m = 0
    · subst h0; decide
    · have := (Nat.log2_lt h0).2 bi.2.2
      omega
  obtain ⟨e, he⟩ : ∃ e, 54 + 52 - m.log2 = e + 52 := ⟨54 - m.log2, by omega⟩
  have hq : Datum.quotient (double.fractionBits + 2) (.number s m i) (.number false 4503599627370496 ((p : Int) - 52)) = some (.number s (2 * (m * 2 ^ e)) (i - ((p : Int) - 52) - ((e + 52 : Nat) : Int) - 1)) := by
    have hf : double.fractionBits + 2 = 54 := rfl
    unfold Datum.quotient
    dsimp only
    rw [if_neg (by decide), hf, hl, he, Nat.shiftLeft_eq, Nat.pow_add, show (2 : Nat) ^ 52 = 4503599627370496 from by decide, ← Nat.mul_assoc, Nat.mul_div_cancel _ (by decide), Nat.mul_mod_left]
    simp
  have hA := congrArg Int.natAbs h
  rw [signed_natAbs, natAbs_mul_pow] at hA
  refine ⟨_, by unfold Format.div; rw [hx, hc, hq]; rfl, ?_⟩
  show IsF (double.nearest s (2 * (m * 2 ^ e)) (i - ((p : Int) - 52) - ((e + 52 : Nat) : Int) - 1)) R
  obtain ⟨P, hP⟩ : ∃ P : Nat, i - ((p : Int) - 52) - ((e + 52 : Nat) : Int) - 1 = (P : Int) - 3000 := ⟨(i - ((p : Int) - 52) - ((e + 52 : Nat) : Int) - 1 + 3000).toNat, by omega⟩
  refine nearest_isF _ _ _ P R hP hR ?_ ?_
  · refine pow_cancel (d := p) ?_
    have h2 : 2 * (m * 2 ^ e) = m * 2 ^ (e + 1) := by rw [Nat.pow_succ]; generalize 2 ^ e = X; ac_rfl
    rw [h2, Nat.mul_assoc, Nat.mul_assoc, ← Nat.pow_add, ← Nat.pow_add, show e + 1 + (P + p) = (i + 1074).toNat + E0 from by omega, Nat.pow_add, ← Nat.mul_assoc, hA]
    rw [Nat.mul_assoc, Nat.mul_assoc, Nat.mul_comm (2 ^ p)]
  · have hp' : (0 : Int) < 2 ^ p := Int.pow_pos (by decide)
    have hv : R * 2 ^ p = ((if s then -1 else 1) * (R.natAbs : Int)) * 2 ^ p := by
      rw [← h, signed_val, hA, Int.natCast_mul, Int.natCast_pow, Int.mul_assoc]
      rfl
    exact Int.eq_of_mul_eq_mul_right (by omega) hv

theorem ofNat_exact (n : Nat) (h : n < 2 ^ 53) : IsF (double.nearest false n 0) ((n : Int) * 2 ^ M0) := by
  have hE : E0 = 1926 := rfl
  have hM : M0 = 1074 := rfl
  have hA : ((n : Int) * 2 ^ M0).natAbs = n * 2 ^ M0 := by rw [natAbs_mul_pow]; rfl
  refine nearest_isF false n 0 (M0 + E0) _ (by omega) ⟨n, M0, h, by omega, hA⟩ ?_ ?_
  · rw [hA, Nat.mul_assoc, ← Nat.pow_add]
  · rw [hA, Int.natCast_mul, Int.natCast_pow]
    simp

end Fl
