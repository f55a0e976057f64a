/-
  PLAIN: WHERE THE EXACT RESULT IS A DOUBLE, the operation gives it. 'IsF x V': the word x is a finite double, worth V units of 2^-1074.
-/
import Derived.Test.Qxb6604197aFlt
namespace Fl
open Ieee

def IsF (x : Nat) (V : Int) : Prop := ∃ s m i, double.read x = .number s m i ∧ signed s m (i + 1074).toNat = V

theorem IsF.key {x : Nat} {V : Int} (h : IsF x V) : Fl.key x = some V := by
  obtain ⟨s, m, i, hr, hv⟩ := h
  unfold Fl.key
  rw [hr, ← hv]
  rfl

/-- A shift that keeps every great power of two out of sight. -/
def E0 : Nat := 1926

theorem cut_exact (neg : Bool) (n drop : Nat) (hn : n ≠ 0) (hd : 2 ^ drop ∣ n) : Toward.even.cut neg n drop = n / 2 ^ drop := by
  have hle : drop ≤ n.log2 := (Nat.le_log2 hn).2 (Nat.le_of_dvd (Nat.pos_of_ne_zero hn) hd)
  have hmin : min drop (n.log2 + 2) = drop := by omega
  have hr : n % 2 ^ drop = 0 := Nat.mod_eq_zero_of_dvd hd
  have hp : 0 < 2 ^ drop := Nat.two_pow_pos _
  unfold Toward.cut
  dsimp only
  rw [hmin, Nat.one_shiftLeft, hr]
  have h1 : decide (2 ^ drop < 2 * 0) = false := by simp
  have h2 : (2 ^ drop == 2 * 0) = false := by rw [beq_eq_false_iff_ne]; omega
  rw [h1, h2]
  rfl

theorem read_rung (neg : Bool) (r : Nat) (h : r < double.infRung) :
    double.read (double.word neg r) = if r < 4503599627370496 then .number neg r (-1074) else .number neg (4503599627370496 + r % 4503599627370496) (-1074 + (r / 4503599627370496 - 1 : Nat)) := by
  have hs : double.signWeight = 9223372036854775808 := by decide
  have hi : double.infRung = 9218868437227405312 := by decide
  have hb : double.binade = 4503599627370496 := by decide
  have hl : double.leastPlace = -1074 := by decide
  rw [hi] at h
  have hm : double.word neg r % double.signWeight = r := by
    unfold Format.word
    rw [hs]
    cases neg
    · simp only [Bool.false_eq_true, if_false]; omega
    · simp only [if_true]; omega
  have hg : (double.word neg r / double.signWeight % 2 == 1) = neg := by
    unfold Format.word
    rw [hs]
    cases neg
    · simp only [Bool.false_eq_true, if_false]; rw [Nat.div_eq_of_lt (by omega)]; rfl
    · simp only [if_true]
      rw [show (9223372036854775808 + r) / 9223372036854775808 = 1 from by omega]; rfl
  unfold Format.read
  dsimp only
  rw [hm, hg, hb, hl, hi]
  rw [if_pos h]

theorem pow_cancel {a b d : Nat} (h : a * 2 ^ d = b * 2 ^ d) : a = b := Nat.eq_of_mul_eq_mul_right (Nat.two_pow_pos _) h
theorem pow_cancel_lt {a b d : Nat} (h : a * 2 ^ d < b * 2 ^ d) : a < b := Nat.lt_of_mul_lt_mul_right h

/-- THE WORD NEAREST TO A NUMBER THAT IS A DOUBLE is that double. -/
theorem nearest_exact (neg : Bool) (mag : Nat) (place : Int) (P q z : Nat) (hP : place = (P : Int) - 3000) (hq : q < 2 ^ 53) (hz : z ≤ 2045) (h : mag * 2 ^ P = q * 2 ^ (z + E0)) :
    ∃ m i, double.read (double.nearest neg mag place) = .number neg m i ∧ m * 2 ^ (i + 1074).toNat = q * 2 ^ z := by
  have hE : E0 = 1926 := rfl
  by_cases h0 : mag = 0
  · subst h0
    refine ⟨0, -1074, ?_, ?_⟩
    · unfold Format.nearest
      rw [if_pos rfl, read_rung neg 0 (by decide), if_pos (by decide)]
    · have : q * 2 ^ (z + E0) = 0 := by rw [← h]; simp
      have : q = 0 := by
        rcases Nat.mul_eq_zero.1 this with h1 | h1
        · exact h1
        · have := Nat.two_pow_pos (z + E0); omega
      rw [this]; simp
  · have hl1 : 2 ^ mag.log2 ≤ mag := Nat.log2_self_le h0
    have hl2 : mag < 2 ^ (mag.log2 + 1) := Nat.lt_log2_self
    unfold Format.nearest
    rw [if_neg h0]
    dsimp only
    have hf : double.fractionBits = 52 := rfl
    rw [leastPlace_double, hf]
    generalize hlg : mag.log2 = l at hl1 hl2 ⊢
    generalize hlast : max (place + (l : Int) - ((52 : Nat) : Int)) (-1074) = last
    -- how far the number is shifted up, how many digits are dropped
    obtain ⟨a, ha⟩ : ∃ a, (place - last).toNat = a := ⟨_, rfl⟩
    obtain ⟨d, hd⟩ : ∃ d, (last - place).toNat = d := ⟨_, rfl⟩
    obtain ⟨g, hg⟩ : ∃ g, (last - -1074).toNat = g := ⟨_, rfl⟩
    have had : last = place + d - a := by omega
    have hgl : (g : Int) = last + 1074 := by omega
    have hn : mag <<< a ≠ 0 := by
      rw [Nat.shiftLeft_eq]
      exact Nat.mul_ne_zero h0 (Nat.ne_of_gt (Nat.two_pow_pos _))
    have hdvd : 2 ^ d ∣ mag <<< a := by
      by_cases hd0 : d = 0
      · rw [hd0]; exact Nat.one_dvd _
      · have ha0 : a = 0 := by omega
        rw [ha0, Nat.shiftLeft_zero]
        by_cases hPz : P ≤ z + E0
        · obtain ⟨b, hb⟩ : ∃ b, z + E0 = b + P := ⟨z + E0 - P, by omega⟩
          rw [hb, Nat.pow_add, ← Nat.mul_assoc] at h
          have hm := pow_cancel h
          have hdb : d ≤ b := by
            by_cases hc : last = -1074
            · omega
            · have hl52 : last = place + (l : Int) - 52 := by omega
              have hlt : 2 ^ l < 2 ^ (53 + b) := by
                refine Nat.lt_of_le_of_lt hl1 ?_
                rw [hm, Nat.pow_add]
                exact Nat.mul_lt_mul_of_pos_right hq (Nat.two_pow_pos _)
              have := (Nat.pow_lt_pow_iff_right (by decide : 1 < 2)).1 hlt
              omega
          rw [hm]
          exact Nat.dvd_trans (Nat.pow_dvd_pow 2 hdb) (Nat.dvd_mul_left _ _)
        · exfalso
          obtain ⟨b, hb⟩ : ∃ b, P = b + (z + E0) := ⟨P - (z + E0), by omega⟩
          rw [hb, Nat.pow_add, ← Nat.mul_assoc] at h
          have hm := pow_cancel h
          have hlt : 2 ^ l < 2 ^ 53 := by
            refine Nat.lt_of_le_of_lt hl1 (Nat.lt_of_le_of_lt ?_ hq)
            rw [← hm]
            exact Nat.le_mul_of_pos_right _ (Nat.two_pow_pos _)
          have := (Nat.pow_lt_pow_iff_right (by decide : 1 < 2)).1 hlt
          omega
    rw [ha, hd, hg, cut_exact neg _ d hn hdvd]
    obtain ⟨k, hk⟩ := hdvd
    rw [hk, Nat.mul_div_cancel_left k (Nat.two_pow_pos d)]
    have hk2 : k * 2 ^ d = mag * 2 ^ a := by rw [Nat.mul_comm, ← hk, Nat.shiftLeft_eq]
    have hk53 : k < 2 ^ 53 := by
      refine pow_cancel_lt (d := d) ?_
      rw [hk2, ← Nat.pow_add]
      refine Nat.lt_of_lt_of_le (Nat.mul_lt_mul_of_pos_right hl2 (Nat.two_pow_pos a)) ?_
      rw [← Nat.pow_add]
      exact Nat.pow_le_pow_right (by decide) (by omega)
    have hval : k * 2 ^ g = q * 2 ^ z := by
      have e1 : k * 2 ^ (g + E0) * 2 ^ a = q * 2 ^ (z + E0) * 2 ^ a := by
        rw [← h, Nat.mul_assoc, ← Nat.pow_add, show g + E0 + a = d + P from by omega, Nat.pow_add, ← Nat.mul_assoc, hk2]
        rw [Nat.mul_assoc, Nat.mul_assoc, Nat.mul_comm (2 ^ a)]
      have e2 := pow_cancel e1
      rw [Nat.pow_add, Nat.pow_add, ← Nat.mul_assoc, ← Nat.mul_assoc] at e2
      exact pow_cancel e2
    have hnorm : 0 < g → 2 ^ 52 ≤ k := by
      intro hg0
      have hl52 : last = place + (l : Int) - 52 := by omega
      have : 2 ^ 52 * 2 ^ d ≤ k * 2 ^ d := by
        rw [hk2, ← Nat.pow_add]
        refine Nat.le_trans ?_ (Nat.mul_le_mul_right (2 ^ a) hl1)
        rw [← Nat.pow_add]
        exact Nat.pow_le_pow_right (by decide) (by omega)
      exact Nat.le_of_mul_le_mul_right this (Nat.two_pow_pos d)
    have hg45 : g ≤ 2045 := by
      by_cases hg0 : 0 < g
      · have h52 := hnorm hg0
        have hlt : 2 ^ (52 + g) < 2 ^ (53 + z) := by
          rw [Nat.pow_add, Nat.pow_add]
          refine Nat.lt_of_le_of_lt (Nat.mul_le_mul_right _ h52) ?_
          rw [hval]
          exact Nat.mul_lt_mul_of_pos_right hq (Nat.two_pow_pos _)
        have := (Nat.pow_lt_pow_iff_right (by decide : 1 < 2)).1 hlt
        omega
      · omega
    have hb : double.binade = 4503599627370496 := by decide
    have hi : double.infRung = 9218868437227405312 := by decide
    have p53 : (2 : Nat) ^ 53 = 9007199254740992 := by decide
    have p52 : (2 : Nat) ^ 52 = 4503599627370496 := by decide
    rw [p53] at hk53
    rw [p52] at hnorm
    rw [hb, hi]
    have hr : g * 4503599627370496 + k < 9218868437227405312 := by omega
    rw [Nat.min_eq_left (Nat.le_of_lt hr), read_rung neg _ (by rw [hi]; exact hr)]
    by_cases hsm : g * 4503599627370496 + k < 4503599627370496
    · rw [if_pos hsm]
      have hg0 : g = 0 := by omega
      refine ⟨_, _, rfl, ?_⟩
      rw [← hval, hg0]
      simp
    · rw [if_neg hsm]
      refine ⟨_, _, rfl, ?_⟩
      rw [← hval]
      by_cases hg0 : g = 0
      · subst hg0
        have e1 : (0 * 4503599627370496 + k) % 4503599627370496 = k - 4503599627370496 := by omega
        have e2 : (0 * 4503599627370496 + k) / 4503599627370496 = 1 := by omega
        rw [e1, e2, show 4503599627370496 + (k - 4503599627370496) = k from by omega]
        simp
      · have h52 := hnorm (by omega)
        have e1 : (g * 4503599627370496 + k) % 4503599627370496 = k - 4503599627370496 := by omega
        have e2 : (g * 4503599627370496 + k) / 4503599627370496 = g + 1 := by omega
        rw [e1, e2, show 4503599627370496 + (k - 4503599627370496) = k from by omega]
        congr 2
        omega

end Fl
