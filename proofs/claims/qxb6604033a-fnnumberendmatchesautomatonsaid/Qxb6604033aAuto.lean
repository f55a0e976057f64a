/-
  PLAIN: the automaton of the JSON number grammar, run greedily, ends where 'nEnd' says.
-/
import Derived.Test.Qxb6604033aLaws
namespace Qb33

/-- The transition table. -/
def step (s : Nat) (c : Int) : Option Nat :=
  match s with
  | 0 => if c = 45 then some 1 else if c = 48 then some 2 else if 49 ≤ c ∧ c ≤ 57 then some 3 else none
  | 1 => if c = 48 then some 2 else if 49 ≤ c ∧ c ≤ 57 then some 3 else none
  | 2 => if c = 46 then some 4 else if c = 101 ∨ c = 69 then some 6 else none
  | 3 => if 48 ≤ c ∧ c ≤ 57 then some 3 else if c = 46 then some 4 else if c = 101 ∨ c = 69 then some 6 else none
  | 4 => if 48 ≤ c ∧ c ≤ 57 then some 5 else none
  | 5 => if 48 ≤ c ∧ c ≤ 57 then some 5 else if c = 101 ∨ c = 69 then some 6 else none
  | 6 => if c = 43 ∨ c = 45 then some 7 else if 48 ≤ c ∧ c ≤ 57 then some 8 else none
  | 7 => if 48 ≤ c ∧ c ≤ 57 then some 8 else none
  | 8 => if 48 ≤ c ∧ c ≤ 57 then some 8 else none
  | _ => none

def acc (s : Nat) : Bool := s == 2 || s == 3 || s == 5 || s == 8

/-- The greedy run with fuel. -/
def autF (z : Nat → Int) (n : Nat) : Nat → Nat → Nat → Nat × Nat
  | 0, s, p => (s, p)
  | f + 1, s, p => if p < n then (match step s (z p) with | some t => autF z n f t (p + 1) | none => (s, p)) else (s, p)

def aut (z : Nat → Int) (n s p : Nat) : Nat × Nat := autF z n (n - p) s p
def fin (x : Nat × Nat) : Option Nat := bif acc x.1 then some x.2 else none

theorem aut_step {z : Nat → Int} {n s p t : Nat} (h : p < n) (hs : step s (z p) = some t) : aut z n s p = aut z n t (p + 1) := by
  unfold aut
  obtain ⟨f, hf⟩ : ∃ f, n - p = f + 1 := ⟨n - p - 1, by omega⟩
  have hf2 : n - (p + 1) = f := by omega
  rw [hf, hf2, autF, if_pos h, hs]

theorem aut_stop {z : Nat → Int} {n s p : Nat} (hs : step s (z p) = none) : aut z n s p = (s, p) := by
  unfold aut
  cases n - p with
  | zero => rfl
  | succ f => rw [autF, hs]; split <;> rfl

theorem aut_out {z : Nat → Int} {n s p : Nat} (h : ¬ p < n) : aut z n s p = (s, p) := by
  unfold aut
  have : n - p = 0 := by omega
  rw [this, autF]

theorem step_lt {s : Nat} {c : Int} {t : Nat} (h : step s c = some t) : t ≤ 8 := by
  unfold step at h
  split at h <;> (repeat' split at h) <;> simp_all <;> omega

def E (z : Nat → Int) (n s p : Nat) : Option Nat := fin (aut z n s p)

theorem E_step {z : Nat → Int} {n s p : Nat} (t : Nat) (h : p < n) (hs : step s (z p) = some t) : E z n s p = E z n t (p + 1) := by unfold E; rw [aut_step h hs]
theorem E_stop {z : Nat → Int} {n s p : Nat} (hs : step s (z p) = none) : E z n s p = bif acc s then some p else none := by unfold E; rw [aut_stop hs]; rfl
theorem E_out {z : Nat → Int} {n s p : Nat} (h : ¬ p < n) : E z n s p = bif acc s then some p else none := by unfold E; rw [aut_out h]; rfl

theorem dig_iff {c : Int} : dig c = true ↔ 48 ≤ c ∧ c ≤ 57 := by simp [dig]
theorem dig_no {c : Int} (h : ¬ (48 ≤ c ∧ c ≤ 57)) : dig c = false := by
  cases hd : dig c
  · rfl
  · exact absurd (dig_iff.1 hd) h

theorem E8 (z : Nat → Int) (n : Nat) : ∀ (f p : Nat), n - p ≤ f → E z n 8 p = some (dEnd z n p)
  | 0, p, hf => by rw [E_out (by omega), dEnd_out z n p (by omega)]; rfl
  | f + 1, p, hf => by
    by_cases hp : p < n
    · by_cases hd : 48 ≤ z p ∧ z p ≤ 57
      · rw [E_step 8 hp (by simp [step, hd]), dEnd_step z n p hp (dig_iff.2 hd)]
        exact E8 z n f (p + 1) (by omega)
      · rw [E_stop (by simp [step]; omega), dEnd_no z n p (dig_no hd)]; rfl
    · rw [E_out hp, dEnd_out z n p hp]; rfl

theorem tail_yes {z : Nat → Int} {n p : Nat} (hp : p < n) (hd : 48 ≤ z p ∧ z p ≤ 57) : tailEnd z n p = some (dEnd z n (p + 1)) := by
  unfold tailEnd
  have e := dEnd_step z n p hp (dig_iff.2 hd)
  have g := dEnd_ge z n (p + 1)
  rw [e, decide_eq_true (by omega)]
  rfl
theorem tail_no {z : Nat → Int} {n p : Nat} (hd : ¬ (48 ≤ z p ∧ z p ≤ 57)) : tailEnd z n p = none := by
  unfold tailEnd
  rw [dEnd_no z n p (dig_no hd), decide_eq_false (by omega)]
  rfl
theorem tail_out {z : Nat → Int} {n p : Nat} (h : ¬ p < n) : tailEnd z n p = none := by
  unfold tailEnd
  rw [dEnd_out z n p h, decide_eq_false (by omega)]
  rfl

theorem E7 (z : Nat → Int) (n p : Nat) : E z n 7 p = tailEnd z n p := by
  by_cases hp : p < n
  · by_cases hd : 48 ≤ z p ∧ z p ≤ 57
    · rw [E_step 8 hp (by simp [step, hd]), E8 z n _ (p + 1) (Nat.le_refl _), tail_yes hp hd]
    · rw [E_stop (by simp [step]; omega), tail_no hd]; rfl
  · rw [E_out hp, tail_out hp]; rfl

theorem E6 (z : Nat → Int) (n p : Nat) : E z n 6 p = tailEnd z n (signEnd z n p) := by
  by_cases hp : p < n
  · by_cases hs : z p = 43 ∨ z p = 45
    · have hb : (z p == 43 || z p == 45) = true := by simpa using hs
      have e : signEnd z n p = p + 1 := by simp [signEnd, isOf, hp, hb]
      rw [E_step 7 hp (by simp [step, hs]), E7, e]
    · have hb : (z p == 43 || z p == 45) = false := by simpa using hs
      have e : signEnd z n p = p := by simp [signEnd, isOf, hp, hb]
      rw [e]
      by_cases hd : 48 ≤ z p ∧ z p ≤ 57
      · rw [E_step 8 hp (by simp [step, hs, hd]), E8 z n _ (p + 1) (Nat.le_refl _), tail_yes hp hd]
      · rw [E_stop (by simp [step, hs]; omega), tail_no hd]; rfl
  · have e : signEnd z n p = p := by simp [signEnd, isOf, hp]
    rw [e, E_out hp, tail_out hp]; rfl

theorem exp_at {z : Nat → Int} {n p : Nat} (hp : p < n) (he : z p = 101 ∨ z p = 69) : expEnd z n p = tailEnd z n (signEnd z n (p + 1)) := expEnd_yes (by simp [isOf, hp, he])
theorem exp_not {z : Nat → Int} {n p : Nat} (he : ¬ (z p = 101 ∨ z p = 69)) : expEnd z n p = some p := expEnd_no (by simp [isOf]; intro; omega)
theorem exp_out {z : Nat → Int} {n p : Nat} (h : ¬ p < n) : expEnd z n p = some p := expEnd_no (by simp [isOf]; intro; omega)

theorem E5 (z : Nat → Int) (n : Nat) : ∀ (f p : Nat), n - p ≤ f → E z n 5 p = expEnd z n (dEnd z n p)
  | 0, p, hf => by rw [E_out (by omega), dEnd_out z n p (by omega), exp_out (by omega)]; rfl
  | f + 1, p, hf => by
    by_cases hp : p < n
    · by_cases hd : 48 ≤ z p ∧ z p ≤ 57
      · rw [E_step 5 hp (by simp [step, hd]), dEnd_step z n p hp (dig_iff.2 hd)]
        exact E5 z n f (p + 1) (by omega)
      · rw [dEnd_no z n p (dig_no hd)]
        by_cases he : z p = 101 ∨ z p = 69
        · rw [E_step 6 hp (by simp only [step]; rw [if_neg hd, if_pos he]), E6, exp_at hp he]
        · rw [E_stop (by simp only [step]; rw [if_neg hd, if_neg he]), exp_not he]; rfl
    · rw [E_out hp, dEnd_out z n p hp, exp_out hp]; rfl

/-- The last byte ahead of 'dEnd' is a digit, where any was passed. -/
theorem dEnd_last (z : Nat → Int) (n : Nat) : ∀ (f p : Nat), n - p ≤ f → p < dEnd z n p → dig (z (dEnd z n p - 1)) = true
  | 0, p, hf, h => by rw [dEnd_out z n p (by omega)] at h; omega
  | f + 1, p, hf, h => by
    by_cases hp : p < n
    · cases hd : dig (z p)
      · rw [dEnd_no z n p hd] at h; omega
      · rw [dEnd_step z n p hp hd] at h ⊢
        by_cases hq : p + 1 < dEnd z n (p + 1)
        · exact dEnd_last z n f (p + 1) (by omega) hq
        · have g := dEnd_ge z n (p + 1)
          have : dEnd z n (p + 1) - 1 = p := by omega
          rw [this]; exact hd
    · rw [dEnd_out z n p hp] at h; omega

theorem E2_dot {z : Nat → Int} {n p : Nat} (hp : p < n) (h : z p = 46) : E z n 4 (p + 1) = (fracEnd z n p).bind (expEnd z n) := by
  have ha : isAt z n p 46 = true := by simp [isAt, hp, h]
  unfold fracEnd
  rw [ha]
  simp only [cond_true]
  by_cases hq : p + 1 < n
  · by_cases hd : 48 ≤ z (p + 1) ∧ z (p + 1) ≤ 57
    · have e := dEnd_step z n (p + 1) hq (dig_iff.2 hd)
      have g := dEnd_ge z n (p + 1 + 1)
      have l := dEnd_last z n _ (p + 1) (Nat.le_refl _) (by omega)
      have hne : (z (dEnd z n (p + 1) - 1) == 46) = false := by
        rw [beq_eq_false_iff_ne]; have := dig_iff.1 l; omega
      rw [E_step 5 hq (by simp [step, hd]), E5 z n _ _ (Nat.le_refl _), hne, ← e]
      rfl
    · have e := dEnd_no z n (p + 1) (dig_no hd)
      rw [e, E_stop (by simp [step]; omega)]
      simp [h, acc]
  · have e := dEnd_out z n (p + 1) hq
    rw [e, E_out hq]
    simp [h, acc]

theorem frac_not {z : Nat → Int} {n p : Nat} (h : z p ≠ 46) : fracEnd z n p = some p := by
  have hb : (z p == 46) = false := by simpa using h
  simp [fracEnd, isAt, hb]
theorem frac_out {z : Nat → Int} {n p : Nat} (h : ¬ p < n) : fracEnd z n p = some p := by simp [fracEnd, isAt, h]

theorem E2 (z : Nat → Int) (n p : Nat) : E z n 2 p = (fracEnd z n p).bind (expEnd z n) := by
  by_cases hp : p < n
  · by_cases hz : z p = 46
    · rw [E_step 4 hp (by simp [step, hz]), E2_dot hp hz]
    · rw [frac_not hz, Option.bind_some]
      by_cases he : z p = 101 ∨ z p = 69
      · rw [E_step 6 hp (by simp only [step]; rw [if_neg hz, if_pos he]), E6, exp_at hp he]
      · rw [E_stop (by simp only [step]; rw [if_neg hz, if_neg he]), exp_not he]; rfl
  · rw [E_out hp, frac_out hp, Option.bind_some, exp_out hp]; rfl

theorem E3 (z : Nat → Int) (n : Nat) : ∀ (f p : Nat), n - p ≤ f → E z n 3 p = (fracEnd z n (dEnd z n p)).bind (expEnd z n)
  | 0, p, hf => by rw [E_out (by omega), dEnd_out z n p (by omega), frac_out (by omega), Option.bind_some, exp_out (by omega)]; rfl
  | f + 1, p, hf => by
    by_cases hp : p < n
    · by_cases hd : 48 ≤ z p ∧ z p ≤ 57
      · rw [E_step 3 hp (by simp [step, hd]), dEnd_step z n p hp (dig_iff.2 hd)]
        exact E3 z n f (p + 1) (by omega)
      · rw [dEnd_no z n p (dig_no hd)]
        by_cases hz : z p = 46
        · rw [E_step 4 hp (by simp [step, hz]), E2_dot hp hz]
        · rw [frac_not hz, Option.bind_some]
          by_cases he : z p = 101 ∨ z p = 69
          · rw [E_step 6 hp (by simp only [step]; rw [if_neg hd, if_neg hz, if_pos he]), E6, exp_at hp he]
          · rw [E_stop (by simp only [step]; rw [if_neg hd, if_neg hz, if_neg he]), exp_not he]; rfl
    · rw [E_out hp, dEnd_out z n p hp, frac_out hp, Option.bind_some, exp_out hp]; rfl

theorem E1 (z : Nat → Int) (n p : Nat) : E z n 1 p = (intEnd z n p).bind fun k => (fracEnd z n k).bind (expEnd z n) := by
  by_cases hp : p < n
  · by_cases h0 : z p = 48
    · rw [E_step 2 hp (by simp [step, h0]), E2, intEnd_zero hp (by simp [h0])]; rfl
    · by_cases h1 : 49 ≤ z p ∧ z p ≤ 57
      · rw [E_step 3 hp (by simp [step, h0, h1]), E3 z n _ _ (Nat.le_refl _), intEnd_19 hp (by simp [h0]) h1.1 h1.2]; rfl
      · rw [E_stop (by simp only [step]; rw [if_neg h0, if_neg h1]), intEnd_none (by simp [h0]) h1]; rfl
  · rw [E_out hp, intEnd_out hp]; rfl

/-- THE LAW: run greedily from its first state, the automaton ends, accepting, just where 'nEnd' ends, and not accepting where 'nEnd' finds nothing. -/
theorem E0 (z : Nat → Int) (n p : Nat) : E z n 0 p = nEnd z n p := by
  unfold nEnd
  by_cases hp : p < n
  · by_cases hm : z p = 45
    · have e : minusEnd z n p = p + 1 := by simp [minusEnd, isAt, hp, hm]
      rw [e, E_step 1 hp (by simp [step, hm]), E1]
    · have hb : (z p == 45) = false := by simpa using hm
      have e : minusEnd z n p = p := by simp [minusEnd, isAt, hb]
      rw [e, ← E1]
      by_cases h0 : z p = 48
      · rw [E_step 2 hp (by simp [step, h0]), E_step (s := 1) 2 hp (by simp [step, h0])]
      · by_cases h1 : 49 ≤ z p ∧ z p ≤ 57
        · rw [E_step 3 hp (by simp [step, h0, h1, hm]), E_step (s := 1) 3 hp (by simp [step, h0, h1])]
        · rw [E_stop (by simp only [step]; rw [if_neg hm, if_neg h0, if_neg h1]), E_stop (s := 1) (by simp only [step]; rw [if_neg h0, if_neg h1])]; rfl
  · have e : minusEnd z n p = p := by simp [minusEnd, isAt, hp]
    rw [e, E_out hp, intEnd_out hp]; rfl

end Qb33
