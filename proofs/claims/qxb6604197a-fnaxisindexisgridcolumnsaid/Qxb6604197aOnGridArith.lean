/-
  PLAIN: the steps of 'onGrid', each by its worth.
-/
import Derived.Test.Qxb6604197aOnGrid
import Derived.Test.Qxb6604197aKeys
namespace Fl
open Ieee

theorem le_of_geq {x y : Nat} (h : (double.order x y == some .gt || double.order x y == some .eq) = true) : ∃ a b, key x = some a ∧ key y = some b ∧ b ≤ a := by
  rw [Bool.or_eq_true, beq_iff_eq, beq_iff_eq] at h
  rcases h with h | h
  · obtain ⟨a, b, ha, hb, hl⟩ := gt_of_ord h; exact ⟨a, b, ha, hb, by omega⟩
  · obtain ⟨a, b, ha, hb, hl⟩ := eq_of_ord h; exact ⟨a, b, ha, hb, by omega⟩
theorem le_of_leq {x y : Nat} (h : (double.order x y == some .lt || double.order x y == some .eq) = true) : ∃ a b, key x = some a ∧ key y = some b ∧ a ≤ b := by
  rw [Bool.or_eq_true, beq_iff_eq, beq_iff_eq] at h
  rcases h with h | h
  · obtain ⟨a, b, ha, hb, hl⟩ := lt_of_ord h; exact ⟨a, b, ha, hb, by omega⟩
  · obtain ⟨a, b, ha, hb, hl⟩ := eq_of_ord h; exact ⟨a, b, ha, hb, by omega⟩
theorem le_of_ngt {x y : Nat} {a b : Int} (hx : key x = some a) (hy : key y = some b) (h : (double.order x y == some .gt) = false) : a ≤ b := by
  apply Classical.byContradiction
  intro hc
  rw [ord_gt hx hy (by omega)] at h
  cases h

/-- Within the grid's bounds and in order: both ends are finite. -/
theorem range_fin {lo hi fw hw nh T : Nat} (W : Width fw hw nh T) (h1 : (double.order lo nh == some .gt || double.order lo nh == some .eq) = true) (h2 : (double.order hi hw == some .lt || double.order hi hw == some .eq) = true) (h3 : (double.order lo hi == some .lt) = true) :
    ∃ A B, IsF lo A ∧ IsF hi B ∧ ∀ k, k ≤ 17 → gv (T - k + 29) (-(2 ^ k)) ≤ A ∧ B ≤ gv (T - k + 29) (2 ^ k) := by
  obtain ⟨A, n, hA, hn, hAn⟩ := le_of_geq h1
  obtain ⟨B, p, hB, hp, hBp⟩ := le_of_leq h2
  rw [beq_iff_eq] at h3
  obtain ⟨A', B', hA', hB', hlt⟩ := lt_of_ord h3
  rw [hA] at hA'
  rw [hB] at hB'
  obtain rfl := Option.some.inj hA'
  obtain rfl := Option.some.inj hB'
  have bn : -huge < n ∧ n < huge := by
    have f := W.neg 0 (Nat.zero_le _)
    have e := f.key
    rw [hn] at e
    have e2 := Option.some.inj e
    rw [e2]
    exact f.lt_huge
  have bp : -huge < p ∧ p < huge := by
    have f := W.pos 0 (Nat.zero_le _)
    have e := f.key
    rw [hp] at e
    have e2 := Option.some.inj e
    rw [e2]
    exact f.lt_huge
  refine ⟨A, B, isF_of_key hA (Int.lt_of_lt_of_le bn.1 hAn) ?_, isF_of_key hB ?_ (Int.lt_of_le_of_lt hBp bp.2), fun k hk => ?_⟩
  · exact Int.lt_trans hlt (Int.lt_of_le_of_lt hBp bp.2)
  · exact Int.lt_trans (Int.lt_of_lt_of_le bn.1 hAn) hlt
  · have nk := (W.neg k hk).key
    have pk' := (W.pos k hk).key
    rw [hn] at nk
    rw [hp] at pk'
    have nk2 := Option.some.inj nk
    have pk2 := Option.some.inj pk'
    rw [← nk2, ← pk2]
    exact ⟨hAn, hBp⟩

/-- '-half + float64(j)*w'. -/
theorem line_j {fw hw nh T k j : Nat} (W : Width fw hw nh T) (hk : k ≤ 17) (hj : j ≤ 1099511627777) :
    ∃ x y, double.mul (double.nearest false j 0) (fw - k * 4503599627370496) = some x ∧ double.add nh x = some y ∧ IsF y (gv (T - k + 29) (2 * (j : Int) - 2 ^ k)) := by
  have p53 : (2 : Nat) ^ 53 = 9007199254740992 := by decide
  have hT := W.small
  have h2k : (2 : Int) ^ k ≤ 131072 ∧ 0 < (2 : Int) ^ k := by
    refine ⟨?_, Int.pow_pos (by decide)⟩
    have h : 2 ^ k ≤ 2 ^ 17 := Nat.pow_le_pow_right (by decide) hk
    have h' : ((2 ^ k : Nat) : Int) ≤ ((2 ^ 17 : Nat) : Int) := Int.ofNat_le.2 h
    rw [Int.natCast_pow] at h'
    exact h'
  obtain ⟨x, hx, fx⟩ := mul_exact (ofNat_exact j (by rw [p53]; omega)) (W.cell k hk) (R := gv (T - k + 30) j) (by
    unfold gv
    generalize (2 : Int) ^ M0 = A
    generalize (2 : Int) ^ (T - k + 30) = B
    rw [Int.one_mul, Int.mul_assoc (j : Int), Int.mul_assoc (j : Int), Int.mul_assoc (j : Int), Int.mul_comm A]) (gv_rep _ _ (by omega) (by omega))
  have ex : gv (T - k + 30) (j : Int) = gv (T - k + 29) (2 * (j : Int)) := by
    rw [show T - k + 30 = (T - k + 29) + 1 from by omega, gv_shift]
    congr 1
    omega
  rw [ex] at fx
  obtain ⟨y, hy, fy⟩ := add_exact (W.neg k hk) fx (by rw [gv_add]; exact gv_rep _ _ (by omega) (by omega))
  rw [gv_add, show -(2 : Int) ^ k + 2 * (j : Int) = 2 * (j : Int) - 2 ^ k from by omega] at fy
  exact ⟨x, y, hx, hy, fy⟩

/-- Where both ends are such lines, the span lies on the grid. -/
theorem onGrid_of {lo hi fw hw nh T k j y1 y2 : Nat} {A B : Int} (W : Width fw hw nh T) (hk : k ≤ 17) (hl : IsF lo A) (hh : IsF hi B) (hb : gv (T - k + 29) (-(2 ^ k)) ≤ A ∧ B ≤ gv (T - k + 29) (2 ^ k))
    (f1 : IsF y1 (gv (T - k + 29) (2 * (j : Int) - 2 ^ k))) (f2 : IsF y2 (gv (T - k + 29) (2 * ((j + 1 : Nat) : Int) - 2 ^ k))) (e1 : (double.order y1 lo == some .eq) = true) (e2 : (double.order y2 hi == some .eq) = true) : OnGrid lo hi := by
  have hT := W.small
  have h2k : (2 : Int) ^ k ≤ 131072 ∧ 0 < (2 : Int) ^ k := by
    refine ⟨?_, Int.pow_pos (by decide)⟩
    have h : 2 ^ k ≤ 2 ^ 17 := Nat.pow_le_pow_right (by decide) hk
    have h' : ((2 ^ k : Nat) : Int) ≤ ((2 ^ 17 : Nat) : Int) := Int.ofNat_le.2 h
    rw [Int.natCast_pow] at h'
    exact h'
  rw [beq_iff_eq] at e1 e2
  obtain ⟨a, b, ha, hb', hab⟩ := eq_of_ord e1
  rw [f1.key] at ha; cases ha
  rw [hl.key] at hb'; cases hb'
  obtain ⟨a, b, ha, hb', hab2⟩ := eq_of_ord e2
  rw [f2.key] at ha; cases ha
  rw [hh.key] at hb'; cases hb'
  rw [← hab] at hl hb
  rw [← hab2] at hh hb
  have b1 : -(2 : Int) ^ k ≤ 2 * (j : Int) - 2 ^ k := by
    apply Classical.byContradiction
    intro hc
    have := (gv_lt (t := T - k + 29)).2 (show 2 * (j : Int) - 2 ^ k < -(2 : Int) ^ k from by omega)
    omega
  have b2 : 2 * ((j + 1 : Nat) : Int) - 2 ^ k ≤ 2 ^ k := by
    apply Classical.byContradiction
    intro hc
    have := (gv_lt (t := T - k + 29)).2 (show (2 : Int) ^ k < 2 * ((j + 1 : Nat) : Int) - 2 ^ k from by omega)
    omega
  rw [gv_shift] at hl hh
  have p29 : (2 : Int) ^ 29 = 536870912 := by decide
  rw [p29] at hl hh
  refine ⟨T - k, (2 * (j : Int) - 2 ^ k) * 536870912, by omega, by omega, by omega, hl, ?_⟩
  rw [show (2 * (j : Int) - 2 ^ k) * 536870912 + 1073741824 = (2 * ((j + 1 : Nat) : Int) - 2 ^ k) * 536870912 from by omega]
  exact hh

theorem key_p40 : key 4787326403894837248 = some (1099511627776 * 2 ^ M0) := by
  have hr : double.read 4787326403894837248 = .number false 4503599627370496 (-12) := by decide
  have h := ofNat_exact 1099511627776 (by decide)
  unfold key
  rw [hr]
  show some (signed false 4503599627370496 1062) = _
  rw [signed_eq]
  have hM : M0 = 1074 := rfl
  rw [show M0 = 1062 + 12 from by omega, Int.pow_add]
  generalize (2 : Int) ^ 1062 = A
  simp
  omega

end Fl
