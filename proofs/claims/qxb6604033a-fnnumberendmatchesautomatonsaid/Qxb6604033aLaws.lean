/-
  PLAIN LAWS of 'nEnd': it ends behind its start and within the text; cutting the text at its end turns nothing; shifting the start shifts the end.
-/
import Derived.Test.Qxb6604033aPlain
namespace Qb33

theorem tailEnd_some {z : Nat → Int} {n j r : Nat} (h : tailEnd z n j = some r) : dEnd z n j = r ∧ j < r := by
  unfold tailEnd at h
  by_cases hd : j < dEnd z n j
  · simp [hd] at h
    exact ⟨h, by omega⟩
  · simp [hd] at h

theorem expEnd_bd {z : Nat → Int} {n i k : Nat} (hi : i ≤ n) (h : expEnd z n i = some k) : i ≤ k ∧ k ≤ n := by
  cases h1 : isOf z n i 101 69
  · rw [expEnd_no h1] at h; simp at h; omega
  · rw [expEnd_yes h1] at h
    have l := isOf_lt h1
    have s := signEnd_bd z n (i + 1) (by omega)
    have d := dEnd_le z n (signEnd z n (i + 1)) s.2
    have ⟨a, b⟩ := tailEnd_some h
    omega

theorem nEnd_some {z : Nat → Int} {n i r : Nat} (h : nEnd z n i = some r) : ∃ k q, intEnd z n (minusEnd z n i) = some k ∧ fracEnd z n k = some q ∧ expEnd z n q = some r := by
  unfold nEnd at h
  cases h1 : intEnd z n (minusEnd z n i) with
  | none => rw [h1] at h; cases h
  | some k =>
    rw [h1] at h
    cases h2 : fracEnd z n k with
    | none => simp [h2] at h
    | some q => simp [h2] at h; exact ⟨k, q, rfl, h2, h⟩

theorem nEnd_bd {z : Nat → Int} {n i r : Nat} (h : nEnd z n i = some r) : i < r ∧ r ≤ n := by
  obtain ⟨k, q, h1, h2, h3⟩ := nEnd_some h
  have a := minusEnd_bd z n i
  have b := intEnd_bd h1
  have c := fracEnd_bd b.2 h2
  have d := expEnd_bd c.2 h3
  omega

theorem nEnd_out {z : Nat → Int} {n i : Nat} (h : n ≤ i) : nEnd z n i = none := by
  cases hn : nEnd z n i with
  | none => rfl
  | some r => have := nEnd_bd hn; omega

/-! ### cutting -/
theorem dEnd_cut (z : Nat → Int) (n m : Nat) (hm : m ≤ n) : ∀ (f i : Nat), n - i ≤ f → dEnd z n i ≤ m → dEnd z m i = dEnd z n i
  | 0, i, hf, h => by
    have h1 := dEnd_out z n i (by omega)
    rw [h1, dEnd_out z m i (by omega)]
  | f + 1, i, hf, h => by
    by_cases hi : i < n
    · cases hd : dig (z i)
      · rw [dEnd_no z n i hd, dEnd_no z m i hd]
      · have e := dEnd_step z n i hi hd
        have g := dEnd_ge z n (i + 1)
        rw [dEnd_step z m i (by omega) hd, e]
        exact dEnd_cut z n m hm f (i + 1) (by omega) (by omega)
    · have h1 := dEnd_out z n i hi
      rw [h1, dEnd_out z m i (by omega)]

theorem isAt_cut {z : Nat → Int} {n m i : Nat} {c : Int} (h : i < m) (hm : m ≤ n) : isAt z m i c = isAt z n i c := by
  have : i < n := by omega
  simp [isAt, h, this]
theorem isOf_cut {z : Nat → Int} {n m i : Nat} {c d : Int} (h : i < m) (hm : m ≤ n) : isOf z m i c d = isOf z n i c d := by
  have : i < n := by omega
  simp [isOf, h, this]
theorem is19_cut {z : Nat → Int} {n m i : Nat} (h : i < m) (hm : m ≤ n) : is19 z m i = is19 z n i := by
  have : i < n := by omega
  simp [is19, h, this]
theorem isAt_end (z : Nat → Int) (n : Nat) (c : Int) : isAt z n n c = false := by simp [isAt]
theorem isOf_end (z : Nat → Int) (n : Nat) (c d : Int) : isOf z n n c d = false := by simp [isOf]

theorem minusEnd_cut {z : Nat → Int} {n m i : Nat} (h : i < m) (hm : m ≤ n) : minusEnd z m i = minusEnd z n i := by
  unfold minusEnd; rw [isAt_cut h hm]

theorem intEnd_cut {z : Nat → Int} {n m i k : Nat} (hm : m ≤ n) (h : intEnd z n i = some k) (hk : k ≤ m) : intEnd z m i = some k := by
  have b := intEnd_bd h
  unfold intEnd at h ⊢
  rw [isAt_cut (by omega) hm, is19_cut (by omega) hm]
  cases h1 : isAt z n i 48
  · rw [h1] at h
    cases h2 : is19 z n i
    · rw [h2] at h; cases h
    · rw [h2] at h
      simp at h
      simp
      rw [dEnd_cut z n m hm _ (i + 1) (Nat.le_refl _) (by omega)]
      exact h
  · rw [h1] at h; exact h

theorem fracEnd_cut {z : Nat → Int} {n m i k : Nat} (hm : m ≤ n) (hi : i ≤ m) (h : fracEnd z n i = some k) (hk : k ≤ m) : fracEnd z m i = some k := by
  by_cases him : i < m
  · unfold fracEnd at h ⊢
    rw [isAt_cut him hm]
    cases h1 : isAt z n i 46
    · rw [h1] at h; exact h
    · rw [h1] at h
      simp only [cond_true] at h ⊢
      have hd : dEnd z n (i + 1) = k := by
        cases h2 : z (dEnd z n (i + 1) - 1) == 46
        · rw [h2] at h; simpa using h
        · rw [h2] at h; cases h
      rw [dEnd_cut z n m hm _ (i + 1) (Nat.le_refl _) (by omega)]
      exact h
  · have : i = m := by omega
    subst this
    have hb := fracEnd_bd (by omega) h
    have : k = i := by omega
    subst this
    unfold fracEnd
    rw [isAt_end]
    rfl

theorem expEnd_cut {z : Nat → Int} {n i r : Nat} (hi : i ≤ n) (h : expEnd z n i = some r) : expEnd z r i = some r := by
  have hb := expEnd_bd hi h
  cases h1 : isOf z n i 101 69
  · rw [expEnd_no h1] at h
    have : i = r := by simpa using h
    subst this
    exact expEnd_no (isOf_end _ _ _ _)
  · rw [expEnd_yes h1] at h
    have l := isOf_lt h1
    have s := signEnd_bd z n (i + 1) (by omega)
    have ⟨a, b⟩ := tailEnd_some h
    rw [expEnd_yes (by rw [isOf_cut (n := n) (by omega) hb.2]; exact h1)]
    have es : signEnd z r (i + 1) = signEnd z n (i + 1) := by unfold signEnd; rw [isOf_cut (n := n) (by omega) hb.2]
    rw [es]
    unfold tailEnd
    rw [dEnd_cut z n r hb.2 _ _ (Nat.le_refl _) (by omega), a]
    simp [b]

theorem nEnd_cut {z : Nat → Int} {n i r : Nat} (h : nEnd z n i = some r) : nEnd z r i = some r := by
  obtain ⟨k, q, h1, h2, h3⟩ := nEnd_some h
  have hb := nEnd_bd h
  have b := intEnd_bd h1
  have c := fracEnd_bd b.2 h2
  have d := expEnd_bd c.2 h3
  have e1 := intEnd_cut hb.2 h1 (by omega)
  have e2 := fracEnd_cut hb.2 (by omega) h2 d.1
  have e3 := expEnd_cut c.2 h3
  rw [← minusEnd_cut hb.1 hb.2] at e1
  simp [nEnd, e1, e2, e3]

/-! ### shifting -/
theorem dEnd_shift (z : Nat → Int) (n i : Nat) (hi : i ≤ n) : ∀ (f j : Nat), n - (i + j) ≤ f → dEnd z n (i + j) = i + dEnd (fun k => z (i + k)) (n - i) j
  | 0, j, hf => by
    rw [dEnd_out z n (i + j) (by omega), dEnd_out _ (n - i) j (by omega)]
  | f + 1, j, hf => by
    by_cases hj : i + j < n
    · cases hd : dig (z (i + j))
      · rw [dEnd_no z n (i + j) hd, dEnd_no _ (n - i) j hd]
      · rw [dEnd_step z n (i + j) hj hd, dEnd_step (fun k => z (i + k)) (n - i) j (by omega) hd]
        exact dEnd_shift z n i hi f (j + 1) (by omega)
    · rw [dEnd_out z n (i + j) hj, dEnd_out _ (n - i) j (by omega)]

theorem isAt_shift (z : Nat → Int) (n i j : Nat) (c : Int) : isAt z n (i + j) c = isAt (fun k => z (i + k)) (n - i) j c := by
  unfold isAt
  have : decide (i + j < n) = decide (j < n - i) := by rw [decide_eq_decide]; omega
  rw [this]
theorem isOf_shift (z : Nat → Int) (n i j : Nat) (c d : Int) : isOf z n (i + j) c d = isOf (fun k => z (i + k)) (n - i) j c d := by
  unfold isOf
  have : decide (i + j < n) = decide (j < n - i) := by rw [decide_eq_decide]; omega
  rw [this]
theorem is19_shift (z : Nat → Int) (n i j : Nat) : is19 z n (i + j) = is19 (fun k => z (i + k)) (n - i) j := by
  unfold is19
  have : decide (i + j < n) = decide (j < n - i) := by rw [decide_eq_decide]; omega
  rw [this]

theorem minusEnd_shift (z : Nat → Int) (n i j : Nat) : minusEnd z n (i + j) = i + minusEnd (fun k => z (i + k)) (n - i) j := by
  unfold minusEnd; rw [isAt_shift]; cases isAt (fun k => z (i + k)) (n - i) j 45 <;> simp <;> omega

theorem signEnd_shift (z : Nat → Int) (n i j : Nat) : signEnd z n (i + j) = i + signEnd (fun k => z (i + k)) (n - i) j := by
  unfold signEnd; rw [isOf_shift]; cases isOf (fun k => z (i + k)) (n - i) j 43 45 <;> simp <;> omega

theorem intEnd_shift (z : Nat → Int) (n i j : Nat) (hi : i ≤ n) : intEnd z n (i + j) = (intEnd (fun k => z (i + k)) (n - i) j).map (i + ·) := by
  unfold intEnd
  rw [isAt_shift, is19_shift]
  cases isAt (fun k => z (i + k)) (n - i) j 48
  · cases is19 (fun k => z (i + k)) (n - i) j
    · rfl
    · have := dEnd_shift z n i hi _ (j + 1) (Nat.le_refl _)
      simp only [cond_true, cond_false, Option.map_some]
      rw [← this]
      rfl
  · simp; omega

theorem fracEnd_shift (z : Nat → Int) (n i j : Nat) (hi : i ≤ n) : fracEnd z n (i + j) = (fracEnd (fun k => z (i + k)) (n - i) j).map (i + ·) := by
  unfold fracEnd
  rw [isAt_shift]
  cases isAt (fun k => z (i + k)) (n - i) j 46
  · rfl
  · have e := dEnd_shift z n i hi _ (j + 1) (Nat.le_refl _)
    have g := dEnd_ge (fun k => z (i + k)) (n - i) (j + 1)
    simp only [cond_true]
    rw [show i + j + 1 = i + (j + 1) from by omega, e]
    rw [show i + dEnd (fun k => z (i + k)) (n - i) (j + 1) - 1 = i + (dEnd (fun k => z (i + k)) (n - i) (j + 1) - 1) from by omega]
    cases z (i + (dEnd (fun k => z (i + k)) (n - i) (j + 1) - 1)) == 46 <;> rfl

theorem expEnd_shift (z : Nat → Int) (n i j : Nat) (hi : i ≤ n) : expEnd z n (i + j) = (expEnd (fun k => z (i + k)) (n - i) j).map (i + ·) := by
  unfold expEnd
  rw [isOf_shift]
  cases isOf (fun k => z (i + k)) (n - i) j 101 69
  · rfl
  · simp only [cond_true]
    rw [show i + j + 1 = i + (j + 1) from by omega, signEnd_shift]
    unfold tailEnd
    rw [dEnd_shift z n i hi _ _ (Nat.le_refl _)]
    generalize signEnd (fun k => z (i + k)) (n - i) (j + 1) = s
    have : decide (i + s < i + dEnd (fun k => z (i + k)) (n - i) s) = decide (s < dEnd (fun k => z (i + k)) (n - i) s) := by rw [decide_eq_decide]; omega
    rw [this]
    cases decide (s < dEnd (fun k => z (i + k)) (n - i) s) <;> rfl

theorem nEnd_shift (z : Nat → Int) (n i j : Nat) (hi : i ≤ n) : nEnd z n (i + j) = (nEnd (fun k => z (i + k)) (n - i) j).map (i + ·) := by
  unfold nEnd
  rw [minusEnd_shift, intEnd_shift z n i _ hi]
  cases intEnd (fun k => z (i + k)) (n - i) (minusEnd (fun k => z (i + k)) (n - i) j) with
  | none => rfl
  | some k =>
    simp only [Option.map_some, Option.bind_some]
    rw [fracEnd_shift z n i _ hi]
    cases fracEnd (fun k => z (i + k)) (n - i) k with
    | none => rfl
    | some q => simp only [Option.map_some, Option.bind_some]; exact expEnd_shift z n i q hi

end Qb33
