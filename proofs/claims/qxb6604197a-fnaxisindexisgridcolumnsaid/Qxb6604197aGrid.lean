/-
  PLAIN: on a grid of equal cells 'axisIndex' is a search by halves over the grid's lines.
-/
import Derived.Test.Qxb6604197aOps
import Derived.Test.Qxb6604197aAxis
namespace Fl
open Ieee

/-- N steps of 45 * 2^t units. -/
def gv (t : Nat) (N : Int) : Int := N * 45 * 2 ^ t

theorem gv_add (t : Nat) (N M : Int) : gv t N + gv t M = gv t (N + M) := by unfold gv; rw [Int.add_mul, Int.add_mul]
theorem gv_sub (t : Nat) (N M : Int) : gv t N - gv t M = gv t (N - M) := by unfold gv; rw [Int.sub_mul, Int.sub_mul]
theorem gv_pow (t p : Nat) (N : Int) : gv t (N * 2 ^ p) = gv t N * 2 ^ p := by
  unfold gv
  rw [Int.mul_right_comm N, Int.mul_right_comm (N * 45)]

theorem gv_rep (t : Nat) (N : Int) (ht : t ≤ 2045) (h : N.natAbs ≤ 140737488355328) : Rep (gv t N) := by
  refine ⟨N.natAbs * 45, t, ?_, ht, ?_⟩
  · have p53 : (2 : Nat) ^ 53 = 9007199254740992 := by decide
    rw [p53]; omega
  · unfold gv
    rw [natAbs_mul_pow, Int.natAbs_mul]
    rfl

theorem gv_lt {t : Nat} {N M : Int} : gv t N < gv t M ↔ N < M := by
  unfold gv
  have hp : (0 : Int) < 2 ^ t := Int.pow_pos (by decide)
  constructor
  · intro h
    have := Int.lt_of_mul_lt_mul_right h (Int.le_of_lt hp)
    omega
  · intro h
    exact Int.mul_lt_mul_of_pos_right (by omega) hp
theorem gv_inj {t : Nat} {N M : Int} (h : gv t N = gv t M) : N = M := by
  unfold gv at h
  have hp : (0 : Int) < 2 ^ t := Int.pow_pos (by decide)
  have := Int.eq_of_mul_eq_mul_right (by omega) h
  omega

theorem IsF.cl {x : Nat} {V : Int} (h : IsF x V) : Fl.cl x = some x := by
  obtain ⟨s, m, i, hr, hv⟩ := h
  exact cl_some (by rw [hr]; rfl)

/-- 'v >= ' a number of that worth. -/
def pk (v : Nat) (Y : Int) : Bool := match key v with
  | none => false
  | some a => decide (Y ≤ a)

theorem geq_key {v x : Nat} {Y : Int} (h : IsF x Y) : (double.order v x == some .gt || double.order v x == some .eq) = pk v Y := by
  rw [order_key, h.key]
  unfold pk
  cases key v with
  | none => rfl
  | some a =>
    rcases Int.lt_trichotomy a Y with h1 | h1 | h1
    · show (some (compare a Y) == some .gt || some (compare a Y) == some .eq) = decide (Y ≤ a)
      rw [cmp_lt h1, decide_eq_false (by omega)]; rfl
    · show (some (compare a Y) == some .gt || some (compare a Y) == some .eq) = decide (Y ≤ a)
      rw [cmp_eq h1, decide_eq_true (by omega)]; rfl
    · show (some (compare a Y) == some .gt || some (compare a Y) == some .eq) = decide (Y ≤ a)
      rw [cmp_gt h1, decide_eq_true (by omega)]; rfl

theorem ge_pk {v x : Nat} {Y : Int} (h : IsF x Y) : ge v (some x) = pk v Y := geq_key h

/-- The search by halves, the index so far behind k steps. -/
def sq (p : Nat → Bool) : Nat → Nat
  | 0 => 0
  | k + 1 => 2 * sq p k + (bif p ((2 * sq p k + 1) * 2 ^ (29 - k)) then 1 else 0)

theorem sq_lt (p : Nat → Bool) : ∀ k, sq p k < 2 ^ k
  | 0 => by simp [sq]
  | k + 1 => by
    have := sq_lt p k
    rw [sq, Nat.pow_succ]
    cases p ((2 * sq p k + 1) * 2 ^ (29 - k)) <;> simp <;> omega

theorem read_two : double.read two = .number false 4503599627370496 (((1 : Nat) : Int) - 52) := by decide

/-- A span whose ends lie on the grid, N lines up and as many cells wide as an even number: its middle is on the grid. -/
theorem fmid_grid {t lo hi : Nat} {N D : Int} (ht : t ≤ 2045) (hl : IsF lo (gv t N)) (hh : IsF hi (gv t (N + 2 * D))) (hb : (2 * (N + D)).natAbs ≤ 140737488355328) :
    ∃ m, fmid (some lo) (some hi) = some m ∧ IsF m (gv t (N + D)) := by
  obtain ⟨s, hs, fs⟩ := add_exact hl hh (by rw [gv_add]; exact gv_rep t _ ht (by omega))
  rw [gv_add] at fs
  have e : gv t (N + (N + 2 * D)) = gv t (N + D) * 2 ^ 1 := by rw [← gv_pow]; congr 1; omega
  rw [e] at fs
  obtain ⟨m, hm, fm⟩ := div_exact fs read_two (by decide) rfl (gv_rep t (N + D) ht (by omega))
  refine ⟨m, ?_, fm⟩
  show (double.add lo hi).bind (fun s => double.div s two) = some m
  rw [hs]
  exact hm

theorem pow_split (k : Nat) (h : k < 30) : 2 ^ (30 - k) = 2 * 2 ^ (29 - k) := by
  rw [show 30 - k = (29 - k) + 1 from by omega, Nat.pow_succ, Nat.mul_comm]
theorem pow_total (k : Nat) (h : k ≤ 30) : 2 ^ k * 2 ^ (30 - k) = 1073741824 := by
  rw [← Nat.pow_add, show k + (30 - k) = 30 from by omega]

/-- 'axisIndex' on a grid, step by step. -/
theorem ax_grid (v lo hi t : Nat) (L : Int) (ht : t ≤ 2045) (hL : -70368744177664 ≤ L) (hL2 : L + 1073741824 ≤ 70368744177664) (hl : IsF lo (gv t L)) (hh : IsF hi (gv t (L + 1073741824))) :
    ∀ k, k ≤ 30 → ∃ a b, ax v (cl lo) (cl hi) k = (sq (fun m => pk v (gv t (L + m))) k, some a, some b) ∧
      IsF a (gv t (L + ((sq (fun m => pk v (gv t (L + m))) k * 2 ^ (30 - k) : Nat) : Int))) ∧ IsF b (gv t (L + (((sq (fun m => pk v (gv t (L + m))) k + 1) * 2 ^ (30 - k) : Nat) : Int)))
  | 0, _ => by
    refine ⟨lo, hi, ?_, ?_, ?_⟩
    · rw [ax, hl.cl, hh.cl]; rfl
    · simpa [sq] using hl
    · simpa [sq] using hh
  | k + 1, hk => by
    obtain ⟨a, b, hax, fa, fb⟩ := ax_grid v lo hi t L ht hL hL2 hl hh k (by omega)
    have hlt := sq_lt (fun m => pk v (gv t (L + m))) k
    rw [ax, hax, sq]
    generalize sq (fun m => pk v (gv t (L + m))) k = i at fa fb hlt ⊢
    have htot := pow_total k (by omega)
    have hsp := pow_split k (by omega)
    have hD : 0 < 2 ^ (29 - k) := Nat.two_pow_pos _
    have e30 : 30 - (k + 1) = 29 - k := by omega
    rw [e30]
    have hmul : (i + 1) * 2 ^ (30 - k) ≤ 1073741824 := by rw [← htot]; exact Nat.mul_le_mul_right _ hlt
    rw [hsp] at fa fb hmul
    generalize 2 ^ (29 - k) = D at fa fb hmul hD ⊢
    have e1 : (i + 1) * (2 * D) = i * (2 * D) + 2 * D := by rw [Nat.add_mul, Nat.one_mul]
    have e2 : (2 * i + 1) * D = i * (2 * D) + D := by rw [Nat.add_mul, Nat.one_mul, Nat.mul_comm 2 i, Nat.mul_assoc]
    have e3 : 2 * i * D = i * (2 * D) := by rw [Nat.mul_comm 2 i, Nat.mul_assoc]
    have e4 : (2 * i + 1 + 1) * D = i * (2 * D) + D + D := by rw [Nat.add_mul, e2, Nat.one_mul]
    rw [e1] at fb hmul
    generalize i * (2 * D) = N at fa fb hmul e2 e3 e4
    obtain ⟨m, hm, fm⟩ := fmid_grid (N := L + (N : Int)) (D := (D : Int)) ht fa (by rw [show L + (N : Int) + 2 * (D : Int) = L + ((N + 2 * D : Nat) : Int) from by omega]; exact fb) (by omega)
    have hge : ge v (some m) = pk v (gv t (L + (((2 * i + 1) * D : Nat) : Int))) := by
      rw [ge_pk fm, e2]
      congr 2
      omega
    show ∃ a' b', nxt v (i, some a, some b) = (2 * i + (bif pk v (gv t (L + (((2 * i + 1) * D : Nat) : Int))) then 1 else 0), some a', some b') ∧ _
    unfold nxt
    dsimp only
    rw [hm, hge]
    cases pk v (gv t (L + (((2 * i + 1) * D : Nat) : Int)))
    · refine ⟨a, m, by simp, ?_, ?_⟩
      · simp only [cond_false, Nat.add_zero]
        rw [e3]; exact fa
      · simp only [cond_false, Nat.add_zero]
        rw [e2, show L + ((N + D : Nat) : Int) = L + (N : Int) + (D : Int) from by omega]; exact fm
    · refine ⟨m, b, by simp, ?_, ?_⟩
      · simp only [cond_true]
        rw [e2, show L + ((N + D : Nat) : Int) = L + (N : Int) + (D : Int) from by omega]; exact fm
      · simp only [cond_true]
        rw [e4, show N + D + D = N + 2 * D from by omega]; exact fb

end Fl
