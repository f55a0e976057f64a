/-
  PLAIN: what 'onGrid' reckons with: the words of 360 / 2^k and 180 / 2^k, their worth; operations that give no NaN; a float made whole.
-/
import Derived.Test.Qxb6604197aGrid
namespace Fl
open Ieee

/-- The span is a cell of a grid on which 2^30 cells of its own fit. -/
def OnGrid (lo hi : Nat) : Prop := ∃ (t : Nat) (L : Int), t ≤ 1100 ∧ -70368744177664 ≤ L ∧ L + 1073741824 ≤ 70368744177664 ∧ IsF lo (gv t L) ∧ IsF hi (gv t (L + 1073741824))

theorem gv_shift (t p : Nat) (N : Int) : gv (t + p) N = gv t (N * 2 ^ p) := by
  unfold gv
  rw [Int.pow_add]
  generalize (2 : Int) ^ t = A
  generalize (2 : Int) ^ p = B
  ac_rfl

theorem isF_pos {w e : Nat} {i : Int} (hr : double.read w = .number false 6333186975989760 i) (he : (i + 1074).toNat = e) : IsF w (gv (e + 47) 1) := by
  refine ⟨false, 6333186975989760, i, hr, ?_⟩
  rw [he, signed_eq, gv_shift]
  unfold gv
  have p47 : (1 : Int) * 2 ^ 47 = 140737488355328 := by decide
  rw [p47]
  simp
theorem isF_neg {w e : Nat} {i : Int} (hr : double.read w = .number true 6333186975989760 i) (he : (i + 1074).toNat = e) : IsF w (gv (e + 47) (-1)) := by
  refine ⟨true, 6333186975989760, i, hr, ?_⟩
  rw [he, signed_eq, gv_shift]
  unfold gv
  have p47 : (-1 : Int) * 2 ^ 47 = -140737488355328 := by decide
  rw [p47]
  simp [Int.neg_mul]

/-- All that the walk wants to know of a grid's width: its halvings, its half, that half's negative. -/
structure Width (fw hw nh T : Nat) : Prop where
  small : 17 ≤ T ∧ T ≤ 1047
  half : double.div fw two = some hw
  next : ∀ k, k < 18 → double.div (fw - k * 4503599627370496) two = some (fw - (k + 1) * 4503599627370496)
  cell : ∀ k, k ≤ 17 → IsF (fw - k * 4503599627370496) (gv (T - k + 30) 1)
  pos : ∀ k, k ≤ 17 → IsF hw (gv (T - k + 29) (2 ^ k))
  neg : ∀ k, k ≤ 17 → IsF nh (gv (T - k + 29) (-(2 ^ k)))

theorem width360 : Width 4645040803167600640 4640537203540230144 13863909240395005952 1047 where
  small := by omega
  half := by decide
  next := by decide
  cell := fun k hk => by
    have hr : ∀ k, k ≤ 17 → double.read (4645040803167600640 - k * 4503599627370496) = .number false 6333186975989760 (-44 - (k : Int)) := by decide
    have := isF_pos (e := 1030 - k) (hr k hk) (by omega)
    rwa [show 1047 - k + 30 = 1030 - k + 47 from by omega]
  pos := fun k hk => by
    have hr : double.read 4640537203540230144 = .number false 6333186975989760 (-45) := by decide
    have := isF_pos (e := 1029) hr (by omega)
    rw [show 1029 + 47 = (1047 - k + 29) + k from by omega, gv_shift, Int.one_mul] at this
    exact this
  neg := fun k hk => by
    have hr : double.read 13863909240395005952 = .number true 6333186975989760 (-45) := by decide
    have := isF_neg (e := 1029) hr (by omega)
    rw [show 1029 + 47 = (1047 - k + 29) + k from by omega, gv_shift, Int.neg_mul, Int.one_mul] at this
    exact this

theorem width180 : Width 4640537203540230144 4636033603912859648 13859405640767635456 1046 where
  small := by omega
  half := by decide
  next := by decide
  cell := fun k hk => by
    have hr : ∀ k, k ≤ 17 → double.read (4640537203540230144 - k * 4503599627370496) = .number false 6333186975989760 (-45 - (k : Int)) := by decide
    have := isF_pos (e := 1029 - k) (hr k hk) (by omega)
    rwa [show 1046 - k + 30 = 1029 - k + 47 from by omega]
  pos := fun k hk => by
    have hr : double.read 4636033603912859648 = .number false 6333186975989760 (-46) := by decide
    have := isF_pos (e := 1028) hr (by omega)
    rw [show 1028 + 47 = (1046 - k + 29) + k from by omega, gv_shift, Int.one_mul] at this
    exact this
  neg := fun k hk => by
    have hr : double.read 13859405640767635456 = .number true 6333186975989760 (-46) := by decide
    have := isF_neg (e := 1028) hr (by omega)
    rw [show 1028 + 47 = (1046 - k + 29) + k from by omega, gv_shift, Int.neg_mul, Int.one_mul] at this
    exact this

/-! ### no NaN -/
theorem isF_add {x y : Nat} {V W : Int} (hx : IsF x V) (hy : IsF y W) : ∃ r, double.add x y = some r := by
  obtain ⟨s, m, i, hx, _⟩ := hx
  obtain ⟨t, n, j, hy, _⟩ := hy
  unfold Format.add
  rw [hx, hy]
  exact ⟨_, rfl⟩
theorem isF_sub {x y : Nat} {V W : Int} (hx : IsF x V) (hy : IsF y W) : ∃ r, double.sub x y = some r := by
  obtain ⟨s, m, i, hx, _⟩ := hx
  obtain ⟨t, n, j, hy, _⟩ := hy
  unfold Format.sub
  rw [hx, hy]
  exact ⟨_, rfl⟩
theorem div_isF {x y : Nat} {W : Int} (hx : cl x = some x) (hy : IsF y W) (h0 : W ≠ 0) : ∃ r, double.div x y = some r := by
  have hn : (double.read x).isNaN = false := by
    unfold cl at hx
    cases hh : (double.read x).isNaN
    · rfl
    · rw [hh] at hx; cases hx
  obtain ⟨t, n, j, hy, hv⟩ := hy
  have hn0 : n ≠ 0 := by
    intro e
    subst e
    rw [signed_eq] at hv
    simp at hv
    exact h0 hv.symm
  unfold Format.div
  rw [hy]
  cases hd : double.read x with
  | nan t f => rw [hd] at hn; cases hn
  | infinity t => exact ⟨_, rfl⟩
  | number s m i =>
    unfold Datum.quotient
    dsimp only
    rw [if_neg hn0]
    exact ⟨_, rfl⟩

theorem isF_of_key {x : Nat} {V : Int} (h : key x = some V) (h1 : -huge < V) (h2 : V < huge) : IsF x V := by
  unfold key at h
  cases hd : double.read x with
  | nan t f => rw [hd] at h; cases h
  | infinity t =>
    rw [hd] at h
    simp only [val, Option.some.injEq] at h
    cases t
    · simp only [Bool.false_eq_true, if_false] at h; omega
    · simp only [if_true] at h; omega
  | number s m i =>
    rw [hd] at h
    simp only [val, Option.some.injEq] at h
    exact ⟨s, m, i, hd, h⟩

theorem IsF.lt_huge {x : Nat} {V : Int} (h : IsF x V) : -huge < V ∧ V < huge := by
  obtain ⟨s, m, i, hr, hv⟩ := h
  have hb := read_number hr
  rw [← hv]
  exact signed_lt s m i hb.2.1 hb.2.2

/-! ### a float made whole -/
theorem cut_zero (s : Bool) (n drop : Nat) : Toward.zero.cut s n drop * 2 ^ drop ≤ n := by
  unfold Toward.cut
  dsimp only
  rw [Nat.one_shiftLeft]
  by_cases h : drop ≤ n.log2 + 2
  · rw [Nat.min_eq_left h]
    show (n / 2 ^ drop + 0) * 2 ^ drop ≤ n
    rw [Nat.add_zero]
    exact Nat.div_mul_le_self n _
  · rw [Nat.min_eq_right (by omega)]
    have : n / 2 ^ (n.log2 + 2) = 0 := by
      refine Nat.div_eq_of_lt ?_
      refine Nat.lt_of_lt_of_le Nat.lt_log2_self (Nat.pow_le_pow_right (by decide) (by omega))
    show (n / 2 ^ (n.log2 + 2) + 0) * 2 ^ drop ≤ n
    rw [this]
    simp

/-- A finite double from 0 to 2^40, cut to a whole number: from 0 to 2^40. -/
theorem toInt_bd {x : Nat} {Q : Int} (h : IsF x Q) (h0 : 0 ≤ Q) (h1 : Q ≤ 1099511627776 * 2 ^ M0) : ∃ j : Nat, (double.read x).toInt .zero = some (j : Int) ∧ j ≤ 1099511627776 := by
  obtain ⟨s, m, i, hr, hv⟩ := h
  have hM : M0 = 1074 := rfl
  have bi := (read_number hr).1
  rw [hr]
  show ∃ j : Nat, some (signed s (Toward.zero.cut s (m <<< i.toNat) (-i).toNat) 0) = some (j : Int) ∧ j ≤ 1099511627776
  have hc := cut_zero s (m <<< i.toNat) (-i).toNat
  generalize Toward.zero.cut s (m <<< i.toNat) (-i).toNat = c at hc ⊢
  rw [Nat.shiftLeft_eq] at hc
  have hA := congrArg Int.natAbs hv
  rw [signed_natAbs] at hA
  have hcv : c * 2 ^ M0 ≤ Q.natAbs := by
    rw [← hA]
    by_cases hp : 0 ≤ i
    · rw [show (-i).toNat = 0 from by omega, Nat.pow_zero, Nat.mul_one] at hc
      rw [show (i + 1074).toNat = i.toNat + M0 from by omega, Nat.pow_add, ← Nat.mul_assoc]
      exact Nat.mul_le_mul_right _ hc
    · rw [show i.toNat = 0 from by omega, Nat.pow_zero, Nat.mul_one] at hc
      rw [show M0 = (-i).toNat + (i + 1074).toNat from by omega, Nat.pow_add, ← Nat.mul_assoc]
      exact Nat.mul_le_mul_right _ hc
  have hQ : Q.natAbs ≤ 1099511627776 * 2 ^ M0 := by
    have h2 : ((Q.natAbs : Nat) : Int) ≤ ((1099511627776 * 2 ^ M0 : Nat) : Int) := by
      rw [Int.natCast_mul, Int.natCast_pow, show ((Q.natAbs : Nat) : Int) = Q from by omega]
      exact h1
    exact Int.ofNat_le.1 h2
  have hc40 : c ≤ 1099511627776 := Nat.le_of_mul_le_mul_right (Nat.le_trans hcv hQ) (Nat.two_pow_pos _)
  cases s
  · refine ⟨c, ?_, hc40⟩
    rw [signed_eq]; simp
  · have hz : Q.natAbs = 0 := by
      rw [signed_val] at hv
      simp only [if_true] at hv
      rw [hA] at hv
      omega
    rw [hz] at hcv
    have hc0 : c = 0 := by
      rcases Nat.mul_eq_zero.1 (Nat.le_zero.1 hcv) with h2 | h2
      · exact h2
      · have := Nat.two_pow_pos M0; omega
    subst hc0
    exact ⟨0, rfl, by omega⟩

end Fl
