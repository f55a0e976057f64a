/-
  THE WALK OF gridIndexModel (8) on a grid.
-/
import Derived.Test.Qxb6604197aBase
import Derived.Test.Qxb6604197aGrid
namespace Go.Proofs.Qxb6604197a
open Go.RowKit

theorem read_p30 : Ieee.double.read 4742290407621132288 = .number false 4503599627370496 (((30 : Nat) : Int) - 52) := by decide

theorem ret_u64' {a b : Int} (h : a = b) : Ending.returned (.int .u64 a) = .returned (.int .u64 b) := by rw [h]

/-- 'lo + float64(m)*u': a line of the grid. -/
theorem line_exact {t u lo m : Nat} {L : Int} (ht : t ≤ 1100) (hu : Fl.IsF u (Fl.gv t 1)) (hl : Fl.IsF lo (Fl.gv t L)) (hL : -70368744177664 ≤ L) (hL2 : L + 1073741824 ≤ 70368744177664) (hm : m < 1073741824) :
    ∃ x y, Ieee.double.mul (Ieee.double.nearest false m 0) u = some x ∧ Ieee.double.add lo x = some y ∧ Fl.IsF y (Fl.gv t (L + m)) := by
  have p53 : (2 : Nat) ^ 53 = 9007199254740992 := by decide
  obtain ⟨x, hx, fx⟩ := Fl.mul_exact (Fl.ofNat_exact m (by rw [p53]; omega)) hu (R := Fl.gv t m) (by
    unfold Fl.gv
    generalize (2 : Int) ^ Fl.M0 = A
    generalize (2 : Int) ^ t = B
    rw [Int.one_mul, Int.mul_assoc (m : Int), Int.mul_assoc (m : Int), Int.mul_assoc (m : Int), Int.mul_comm A]) (Fl.gv_rep t m (by omega) (by omega))
  obtain ⟨y, hy, fy⟩ := Fl.add_exact hl fx (by rw [Fl.gv_add]; exact Fl.gv_rep t _ (by omega) (by omega))
  rw [Fl.gv_add] at fy
  exact ⟨x, y, hx, hy, fy⟩

theorem ofInt_nat (n : Nat) : floatOfInt .f64 (n : Int) = Ieee.double.nearest false n 0 := by
  show Ieee.double.nearest (decide ((n : Int) < 0)) (n : Int).natAbs 0 = _
  rw [decide_eq_false (by omega), Int.natAbs_natCast]

set_option maxHeartbeats 1000000 in
theorem grid_any (v lo hi t : Nat) (L : Int) (w : World) (ht : t ≤ 1100) (hL : -70368744177664 ≤ L) (hL2 : L + 1073741824 ≤ 70368744177664) (hl : Fl.IsF lo (Fl.gv t L)) (hh : Fl.IsF hi (Fl.gv t (L + 1073741824))) :
    Calls Try.prog 8 #[.float .f64 v, .float .f64 lo, .float .f64 hi] w fun e w' => e = .returned (.int .u64 ((Fl.sq (fun m => Fl.pk v (Fl.gv t (L + m))) 30 : Nat) : Int)) ∧ w = w' := by
  obtain ⟨d, hd, fd⟩ := Fl.sub_exact hh hl (by rw [Fl.gv_sub]; exact Fl.gv_rep t _ (by omega) (by omega))
  rw [Fl.gv_sub, show L + 1073741824 - L = (1 : Int) * 2 ^ 30 from by omega, Fl.gv_pow] at fd
  obtain ⟨u, hu, fu⟩ := Fl.div_exact fd read_p30 (by decide) rfl (Fl.gv_rep t 1 (by omega) (by decide))
  have rs := fun w => run_float_arith (P := Try.prog) w .sub 22 .f64 hi lo d hd
  have rq := fun w => run_float_arith (P := Try.prog) w .quo 22 .f64 d 4742290407621132288 u hu
  have HF : Hid (Fl.IsF u (Fl.gv t 1) ∧ Fl.IsF lo (Fl.gv t L)) := ⟨fu, hl⟩
  clear hd fd hu fu hl hh
  generalize hp : (fun m : Nat => Fl.pk v (Fl.gv t (L + m))) = p
  have HP : Hid ((fun m : Nat => Fl.pk v (Fl.gv t (L + m))) = p) := hp
  clear hp
  go_enter Try.func8, Try.ntmps8
  go_wp2
  go_loop [8, 9] (fun a b => ∃ k f g : Nat, k ≤ 30 ∧ a = .int .u64 f ∧ b = .int .u64 g ∧ f = Fl.sq p k * 2 ^ (30 - k) ∧ g + 1 = f + 2 ^ (30 - k) ∧ g ≤ 1073741823) (fun a b => (intOf b).toNat - (intOf a).toNat)
  case atStart => exact ⟨0, 0, 1073741823, by omega, rfl, rfl, by simp [Fl.sq], by decide, by omega⟩
  case round =>
    obtain ⟨k, f, g, hk, rfl, rfl, hf, hg, hgb⟩ := hrel
    by_cases hlt : k < 30
    · have hsp := Fl.pow_split k hlt
      have hD : 0 < 2 ^ (29 - k) := Nat.two_pow_pos _
      rw [hsp] at hf hg
      generalize hDD : 2 ^ (29 - k) = D at hf hg hD
      have HDD : Hid (2 ^ (29 - k) = D) := hDD
      have HFF : Hid (f = Fl.sq p k * (2 * D)) := hf
      clear hDD hsp hf
      have hg1 : g = f + 2 * D - 1 := by omega
      have HG : Hid (g + 1 = f + 2 * D) := hg
      have h1 : f < g := by omega
      have hm30 : f + D < 1073741824 := by omega
      have em : (f : Int) + ((g : Int) - (f : Int) + 1) / 2 = ((f + D : Nat) : Int) := by omega
      have HEM : Hid ((f : Int) + ((g : Int) - (f : Int) + 1) / 2 = ((f + D : Nat) : Int)) := em
      have eF : floatOfInt .f64 ((f : Int) + ((g : Int) - (f : Int) + 1) / 2) = Ieee.double.nearest false (f + D) 0 := by rw [em]; exact ofInt_nat (f + D)
      clear hg hg1 em
      obtain ⟨x, y, hx, hy, fy⟩ := line_exact ht HF.out.1 HF.out.2 hL hL2 hm30
      have rm := fun w => run_float_arith (P := Try.prog) w .mul 22 .f64 (Ieee.double.nearest false (f + D) 0) u x hx
      have ra := fun w => run_float_arith (P := Try.prog) w .add 22 .f64 lo x y hy
      have hge : (FloatKind.f64.format.order v y == some .gt || FloatKind.f64.format.order v y == some .eq) = p (f + D) := by
        rw [← HP.out]
        exact Fl.geq_key fy
      clear hx hy fy
      have HSQ : Hid (Fl.sq p (k + 1) = 2 * Fl.sq p k + (bif p (f + D) then 1 else 0)) := by
        show _ = _
        rw [Fl.sq, HDD.out, HFF.out]
        congr 3
        rw [Nat.add_mul, Nat.one_mul, Nat.mul_comm 2, Nat.mul_assoc]
      have e30 : 30 - (k + 1) = 29 - k := by omega
      cases hpb : p (f + D)
      · rw [hpb] at hge
        have HPB : Hid (p (f + D) = false) := hpb
        clear hpb e30
        go_wp2
        go_round
        case rel =>
          refine ⟨k + 1, f, f + D - 1, by omega, rfl, by rw [HEM.out]; go_num, ?_, ?_, by omega⟩
          · rw [HSQ.out, HPB.out, show 30 - (k + 1) = 29 - k from by omega, HDD.out]
            simp only [cond_false, Nat.add_zero]
            rw [Nat.mul_comm 2, Nat.mul_assoc]
            exact HFF.out
          · rw [show 30 - (k + 1) = 29 - k from by omega, HDD.out]; omega
        case measure => simp only [intOf]; rw [HEM.out]; have := HG.out; omega
      · rw [hpb] at hge
        have HPB : Hid (p (f + D) = true) := hpb
        clear hpb e30
        go_wp2
        go_round
        case rel =>
          refine ⟨k + 1, f + D, g, by omega, by rw [HEM.out], rfl, ?_, ?_, by omega⟩
          · rw [HSQ.out, HPB.out, show 30 - (k + 1) = 29 - k from by omega, HDD.out]
            simp only [cond_true]
            rw [Nat.add_mul, Nat.one_mul, Nat.mul_comm 2, Nat.mul_assoc, ← HFF.out]
          · rw [show 30 - (k + 1) = 29 - k from by omega, HDD.out]; have := HG.out; omega
        case measure => simp only [intOf]; rw [HEM.out]; have := HG.out; omega
    · obtain rfl : k = 30 := by omega
      have hgf : ¬ f < g := by simp at hg; omega
      have HFF : Hid (f = Fl.sq p 30) := by show _ = _; simpa using hf
      clear hf hg
      go_wp2
      go_ret
      exact ⟨ret_u64' (by rw [HFF.out]), rfl⟩

end Go.Proofs.Qxb6604197a
