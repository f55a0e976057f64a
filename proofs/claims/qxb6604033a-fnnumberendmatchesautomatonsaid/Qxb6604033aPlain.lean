/-
  PLAIN FUNCTIONS AND LAWS: no Go in sight. What 'digitsEnd' and 'numberEnd' compute, over a text given as a function 'z' from places to bytes, of which the first n count.
-/
namespace Qb33

/-- Is the byte a decimal digit? -/
def dig (c : Int) : Bool := decide (48 ≤ c) && decide (c ≤ 57)

/-- 'digitsEnd' with fuel. -/
def dEndF (z : Nat → Int) (n : Nat) : Nat → Nat → Nat
  | 0, i => i
  | f + 1, i => if i < n ∧ dig (z i) = true then dEndF z n f (i + 1) else i

/-- The first place from i on that is no digit of the first n bytes. -/
def dEnd (z : Nat → Int) (n i : Nat) : Nat := dEndF z n (n - i) i

theorem dEnd_step (z : Nat → Int) (n i : Nat) (h : i < n) (hd : dig (z i) = true) : dEnd z n i = dEnd z n (i + 1) := by
  unfold dEnd
  obtain ⟨f, hf⟩ : ∃ f, n - i = f + 1 := ⟨n - i - 1, by omega⟩
  have hf2 : n - (i + 1) = f := by omega
  rw [hf, hf2, dEndF, if_pos ⟨h, hd⟩]

theorem dEnd_out (z : Nat → Int) (n i : Nat) (h : ¬ i < n) : dEnd z n i = i := by
  unfold dEnd
  have : n - i = 0 := by omega
  rw [this, dEndF]

theorem dEnd_no (z : Nat → Int) (n i : Nat) (hd : dig (z i) = false) : dEnd z n i = i := by
  unfold dEnd
  cases n - i with
  | zero => rfl
  | succ f => rw [dEndF, if_neg (by simp [hd])]

theorem dEndF_bd (z : Nat → Int) (n : Nat) : ∀ f i, i ≤ dEndF z n f i ∧ (dEndF z n f i = i ∨ dEndF z n f i ≤ n)
  | 0, i => ⟨Nat.le_refl _, .inl rfl⟩
  | f + 1, i => by
    rw [dEndF]
    split
    · rename_i h
      have := dEndF_bd z n f (i + 1)
      omega
    · exact ⟨Nat.le_refl _, .inl rfl⟩

theorem dEnd_ge (z : Nat → Int) (n i : Nat) : i ≤ dEnd z n i := (dEndF_bd z n _ i).1
theorem dEnd_le (z : Nat → Int) (n i : Nat) (h : i ≤ n) : dEnd z n i ≤ n := by
  have := (dEndF_bd z n (n - i) i).2
  unfold dEnd
  omega

/-- The byte c stands at place i. -/
def isAt (z : Nat → Int) (n i : Nat) (c : Int) : Bool := decide (i < n) && (z i == c)
/-- One of the bytes c, d stands at place i. -/
def isOf (z : Nat → Int) (n i : Nat) (c d : Int) : Bool := decide (i < n) && (z i == c || z i == d)
/-- A digit from 1 to 9 stands at place i. -/
def is19 (z : Nat → Int) (n i : Nat) : Bool := decide (i < n) && (decide (49 ≤ z i) && decide (z i ≤ 57))

def minusEnd (z : Nat → Int) (n i : Nat) : Nat := bif isAt z n i 45 then i + 1 else i
def intEnd (z : Nat → Int) (n i : Nat) : Option Nat := bif isAt z n i 48 then some (i + 1) else bif is19 z n i then some (dEnd z n (i + 1)) else none
def fracEnd (z : Nat → Int) (n i : Nat) : Option Nat := bif isAt z n i 46 then (bif z (dEnd z n (i + 1) - 1) == 46 then none else some (dEnd z n (i + 1))) else some i
def signEnd (z : Nat → Int) (n i : Nat) : Nat := bif isOf z n i 43 45 then i + 1 else i
def tailEnd (z : Nat → Int) (n j : Nat) : Option Nat := bif decide (j < dEnd z n j) then some (dEnd z n j) else none
def expEnd (z : Nat → Int) (n i : Nat) : Option Nat := bif isOf z n i 101 69 then tailEnd z n (signEnd z n (i + 1)) else some i
/-- What 'numberEnd' finds. -/
def nEnd (z : Nat → Int) (n i : Nat) : Option Nat := (intEnd z n (minusEnd z n i)).bind fun k => (fracEnd z n k).bind (expEnd z n)
def res : Option Nat → Int
  | some k => k
  | none => -1

theorem isAt_lt {z : Nat → Int} {n i : Nat} {c : Int} (h : isAt z n i c = true) : i < n := by simp [isAt] at h; exact h.1
theorem isOf_lt {z : Nat → Int} {n i : Nat} {c d : Int} (h : isOf z n i c d = true) : i < n := by simp [isOf] at h; exact h.1
theorem is19_lt {z : Nat → Int} {n i : Nat} (h : is19 z n i = true) : i < n := by simp [is19] at h; exact h.1

theorem minusEnd_bd (z : Nat → Int) (n i : Nat) : i ≤ minusEnd z n i ∧ (minusEnd z n i = i ∨ minusEnd z n i ≤ n) := by
  unfold minusEnd
  cases h : isAt z n i 45
  · simp
  · have := isAt_lt h; simp; omega

theorem signEnd_bd (z : Nat → Int) (n i : Nat) (hi : i ≤ n) : i ≤ signEnd z n i ∧ signEnd z n i ≤ n := by
  unfold signEnd
  cases h : isOf z n i 43 45
  · simp; omega
  · have := isOf_lt h; simp; omega

theorem intEnd_bd {z : Nat → Int} {n i k : Nat} (h : intEnd z n i = some k) : i < k ∧ k ≤ n := by
  unfold intEnd at h
  cases h1 : isAt z n i 48
  · rw [h1] at h
    cases h2 : is19 z n i
    · rw [h2] at h; cases h
    · rw [h2] at h
      have l := is19_lt h2
      have a := dEnd_ge z n (i + 1)
      have b := dEnd_le z n (i + 1) l
      simp at h
      omega
  · rw [h1] at h
    have l := isAt_lt h1
    simp at h
    omega

theorem fracEnd_bd {z : Nat → Int} {n i k : Nat} (hi : i ≤ n) (h : fracEnd z n i = some k) : i ≤ k ∧ k ≤ n := by
  unfold fracEnd at h
  cases h1 : isAt z n i 46
  · rw [h1] at h; simp at h; omega
  · rw [h1] at h
    have l := isAt_lt h1
    have a := dEnd_ge z n (i + 1)
    have b := dEnd_le z n (i + 1) l
    cases h2 : z (dEnd z n (i + 1) - 1) == 46
    · rw [h2] at h; simp at h; omega
    · rw [h2] at h; simp at h

theorem intEnd_zero {z : Nat → Int} {n i : Nat} (h : i < n) (h0 : (z i == 48) = true) : intEnd z n i = some (i + 1) := by simp [intEnd, isAt, h, h0]
theorem intEnd_19 {z : Nat → Int} {n i : Nat} (h : i < n) (h0 : (z i == 48) = false) (h1 : 49 ≤ z i) (h2 : z i ≤ 57) : intEnd z n i = some (dEnd z n (i + 1)) := by
  simp [intEnd, isAt, is19, h, h0, h1, h2]
theorem intEnd_none {z : Nat → Int} {n i : Nat} (h0 : (z i == 48) = false) (h1 : ¬ (49 ≤ z i ∧ z i ≤ 57)) : intEnd z n i = none := by
  have : (decide (49 ≤ z i) && decide (z i ≤ 57)) = false := by rw [← Bool.decide_and]; exact decide_eq_false h1
  simp [intEnd, isAt, is19, h0, this]
theorem intEnd_out {z : Nat → Int} {n i : Nat} (h : ¬ i < n) : intEnd z n i = none := by simp [intEnd, isAt, is19, h]

theorem expEnd_no {z : Nat → Int} {n i : Nat} (h : isOf z n i 101 69 = false) : expEnd z n i = some i := by simp [expEnd, h]
theorem expEnd_yes {z : Nat → Int} {n i : Nat} (h : isOf z n i 101 69 = true) : expEnd z n i = tailEnd z n (signEnd z n (i + 1)) := by simp [expEnd, h]

theorem nEnd_int {z : Nat → Int} {n i : Nat} (h : intEnd z n (minusEnd z n i) = none) : nEnd z n i = none := by simp [nEnd, h]
theorem nEnd_frac {z : Nat → Int} {n i k : Nat} (h : intEnd z n (minusEnd z n i) = some k) (h2 : fracEnd z n k = none) : nEnd z n i = none := by simp [nEnd, h, h2]
theorem nEnd_exp {z : Nat → Int} {n i k m : Nat} (h : intEnd z n (minusEnd z n i) = some k) (h2 : fracEnd z n k = some m) : nEnd z n i = expEnd z n m := by simp [nEnd, h, h2]

end Qb33
