/-
  PLAIN: 'axisIndex' as a function of words up to a NaN's payload: every NaN is 'none'.
-/
import Ieee.Arith
namespace Fl
open Ieee

/-- A word, every NaN one. -/
def cl (x : Nat) : Option Nat := if (double.read x).isNaN then none else some x

theorem read_word (neg : Bool) (r : Nat) (h : r ≤ double.infRung) : (double.read (double.word neg r)).isNaN = false := by
  have hs : double.signWeight = 9223372036854775808 := by decide
  have hi : double.infRung = 9218868437227405312 := by decide
  have hm : double.word neg r % double.signWeight = r := by
    unfold Format.word
    rw [hs]
    rw [hi] at h
    cases neg
    · simp only [Bool.false_eq_true, if_false]; omega
    · simp only [if_true]; omega
  unfold Format.read
  dsimp only
  rw [hm]
  split
  · rfl
  · split
    · rfl
    · split
      · rfl
      · omega

theorem write_not_nan (d : Datum) (h : d.isNaN = false) : (double.read (double.write d)).isNaN = false := by
  cases d with
  | nan s f => cases h
  | infinity s => exact read_word s _ (Nat.le_refl _)
  | number s m i =>
    show (double.read (double.nearest s m i)).isNaN = false
    unfold Format.nearest
    dsimp only
    split
    · exact read_word s _ (Nat.zero_le _)
    · exact read_word s _ (Nat.min_le_right ..)

theorem sum_not_nan {a b d : Datum} (h : a.sum b = some d) : d.isNaN = false ∧ a.isNaN = false ∧ b.isNaN = false := by
  cases a with
  | nan s f => simp [Datum.sum] at h
  | infinity s =>
    cases b with
    | nan t g => simp [Datum.sum] at h
    | infinity t =>
      simp only [Datum.sum] at h
      split at h
      · cases h; exact ⟨rfl, rfl, rfl⟩
      · cases h
    | number t n j => simp [Datum.sum] at h; subst h; exact ⟨rfl, rfl, rfl⟩
  | number s m i =>
    cases b with
    | nan t g => simp [Datum.sum] at h
    | infinity t => simp [Datum.sum] at h; subst h; exact ⟨rfl, rfl, rfl⟩
    | number t n j => simp only [Datum.sum, Option.some.injEq] at h; subst h; exact ⟨rfl, rfl, rfl⟩

theorem quot_not_nan {k : Nat} {a b d : Datum} (h : a.quotient k b = some d) : d.isNaN = false ∧ a.isNaN = false ∧ b.isNaN = false := by
  cases a with
  | nan s f => simp [Datum.quotient] at h
  | infinity s =>
    cases b with
    | nan t g => simp [Datum.quotient] at h
    | infinity t => simp [Datum.quotient] at h
    | number t n j => simp [Datum.quotient] at h; subst h; exact ⟨rfl, rfl, rfl⟩
  | number s m i =>
    cases b with
    | nan t g => simp [Datum.quotient] at h
    | infinity t => simp [Datum.quotient] at h; subst h; exact ⟨rfl, rfl, rfl⟩
    | number t n j =>
      simp only [Datum.quotient] at h
      split at h
      · split at h
        · cases h
        · cases h; exact ⟨rfl, rfl, rfl⟩
      · cases h; exact ⟨rfl, rfl, rfl⟩

theorem cl_some {x : Nat} (h : (double.read x).isNaN = false) : cl x = some x := by simp [cl, h]
theorem cl_none {x : Nat} (h : (double.read x).isNaN = true) : cl x = none := by simp [cl, h]

def fadd (a b : Option Nat) : Option Nat := a.bind fun x => b.bind fun y => double.add x y
def two : Nat := 4611686018427387904
/-- Half of the sum. -/
def fmid (a b : Option Nat) : Option Nat := (fadd a b).bind fun s => double.div s two

theorem add_some {x y s : Nat} (h : double.add x y = some s) : fadd (cl x) (cl y) = some s ∧ cl s = some s := by
  unfold Format.add at h
  obtain ⟨d, hd, hw⟩ := Option.map_eq_some_iff.1 h
  have ⟨n1, n2, n3⟩ := sum_not_nan hd
  rw [cl_some n2, cl_some n3]
  refine ⟨?_, ?_⟩
  · show double.add x y = some s
    unfold Format.add
    exact h
  · subst hw
    exact cl_some (write_not_nan d n1)

theorem add_none {x y : Nat} (h : double.add x y = none) : fadd (cl x) (cl y) = none := by
  unfold fadd cl
  cases (double.read x).isNaN
  · cases (double.read y).isNaN
    · exact h
    · rfl
  · rfl

theorem div_some {s r : Nat} (h : double.div s two = some r) : cl s = some s ∧ cl r = some r := by
  unfold Format.div at h
  obtain ⟨d, hd, hw⟩ := Option.map_eq_some_iff.1 h
  have ⟨n1, n2, n3⟩ := quot_not_nan hd
  refine ⟨cl_some n2, ?_⟩
  subst hw
  exact cl_some (write_not_nan d n1)

/-- Half of what is no NaN is no NaN. -/
theorem div_two {s : Nat} (h : cl s = some s) : ∃ r, double.div s two = some r := by
  have hn : (double.read s).isNaN = false := by
    unfold cl at h
    cases hh : (double.read s).isNaN
    · rfl
    · rw [hh] at h; cases h
  have h2 : double.read two = .number false 4503599627370496 (-51) := by decide
  unfold Format.div
  rw [h2]
  cases hd : double.read s with
  | nan t f => rw [hd] at hn; cases hn
  | infinity t => exact ⟨_, rfl⟩
  | number t m i =>
    have : Datum.quotient (double.fractionBits + 2) (.number t m i) (.number false 4503599627370496 (-51)) ≠ none := by
      simp [Datum.quotient]
    cases hq : Datum.quotient (double.fractionBits + 2) (.number t m i) (.number false 4503599627370496 (-51)) with
    | none => exact absurd hq this
    | some d => exact ⟨_, rfl⟩
theorem div_nan {s : Nat} (h : cl s = none) : double.div s two = none := by
  cases hd : double.div s two with
  | none => rfl
  | some r => rw [(div_some hd).1] at h; cases h

/-- 'v >= m', false of a NaN. -/
def ge (v : Nat) (m : Option Nat) : Bool := match m with
  | none => false
  | some y => double.order v y == some .gt || double.order v y == some .eq

theorem order_nan {v r : Nat} (h : cl r = none) : double.order v r = none := by
  have hn : (double.read r).isNaN = true := by
    unfold cl at h
    cases hh : (double.read r).isNaN
    · rw [hh] at h; cases h
    · rfl
  unfold Format.order
  cases hd : double.read r with
  | nan t f => cases double.read v <;> rfl
  | infinity t => rw [hd] at hn; cases hn
  | number t m i => rw [hd] at hn; cases hn

theorem ge_cl (v r : Nat) : (double.order v r == some .gt || double.order v r == some .eq) = ge v (cl r) := by
  cases h : cl r with
  | none => rw [order_nan h]; rfl
  | some y =>
    have : y = r := by
      unfold cl at h
      cases hh : (double.read r).isNaN
      · rw [hh] at h; simpa using h.symm
      · rw [hh] at h; cases h
    subst this
    rfl

/-- One halving: the index so far, the span. -/
def nxt (v : Nat) (t : Nat × Option Nat × Option Nat) : Nat × Option Nat × Option Nat :=
  bif ge v (fmid t.2.1 t.2.2) then (2 * t.1 + 1, fmid t.2.1 t.2.2, t.2.2) else (2 * t.1, t.2.1, fmid t.2.1 t.2.2)
/-- k halvings. -/
def ax (v : Nat) (lo hi : Option Nat) : Nat → Nat × Option Nat × Option Nat
  | 0 => (0, lo, hi)
  | k + 1 => nxt v (ax v lo hi k)

theorem ax_lt (v : Nat) (lo hi : Option Nat) : ∀ k, (ax v lo hi k).1 < 2 ^ k
  | 0 => by simp [ax]
  | k + 1 => by
    have := ax_lt v lo hi k
    rw [ax, nxt, Nat.pow_succ]
    cases ge v (fmid (ax v lo hi k).2.1 (ax v lo hi k).2.2) <;> simp <;> omega

theorem ax_half (v : Nat) (lo hi : Option Nat) (k : Nat) : (ax v lo hi (k + 1)).1 / 2 = (ax v lo hi k).1 := by
  rw [ax, nxt]
  cases ge v (fmid (ax v lo hi k).2.1 (ax v lo hi k).2.2) <;> simp <;> omega

/-- The first halving keeps the upper half: its bit, then the upper half's own halvings. -/
theorem ax_up (v : Nat) (lo hi : Option Nat) (h : ge v (fmid lo hi) = true) : ∀ k, ax v lo hi (k + 1) = (2 ^ k + (ax v (fmid lo hi) hi k).1, (ax v (fmid lo hi) hi k).2)
  | 0 => by simp [ax, nxt, h]
  | k + 1 => by
    rw [ax, ax_up v lo hi h k]
    conv => rhs; rw [ax]
    unfold nxt
    cases ge v (fmid (ax v (fmid lo hi) hi k).2.1 (ax v (fmid lo hi) hi k).2.2)
    · simp only [cond_false]; congr 1; rw [Nat.pow_succ]; omega
    · simp only [cond_true]; congr 1; rw [Nat.pow_succ]; omega
theorem ax_dn (v : Nat) (lo hi : Option Nat) (h : ge v (fmid lo hi) = false) : ∀ k, ax v lo hi (k + 1) = ax v lo (fmid lo hi) k
  | 0 => by simp [ax, nxt, h]
  | k + 1 => by
    rw [ax, ax_dn v lo hi h k, ax]

end Fl
