/-
  THE WALK OF onGrid (6): where it says true, the span lies on a grid.
-/
import Derived.Test.Qxb6604197aBase
import Derived.Test.Qxb6604197aOnGridArith
import Derived.Test.Qxb6604197aGridWalk
namespace Go.Proofs.Qxb6604197a
open Go.RowKit

def GridPost (lo hi : Nat) (w : World) (e : Ending) (w' : World) : Prop := (∃ b, e = .returned (.bool b) ∧ (b = true → Fl.OnGrid lo hi)) ∧ w = w'

theorem run_neg {hw nh : Nat} (h : Op.negFloat .f64 hw = nh) (w : World) : Sem.run Try.prog (Op.unary .neg (.float .f64 hw)) w = .ok (.float .f64 nh) w := by rw [← h]; rfl

set_option maxHeartbeats 1000000 in
theorem ongrid_off (lo hi fw hw nh : Nat) (w : World) (hd : Ieee.double.div fw Fl.two = some hw) (hneg : Op.negFloat .f64 hw = nh)
    (h : ((FloatKind.f64.format.order lo nh == some .gt || FloatKind.f64.format.order lo nh == some .eq) && ((FloatKind.f64.format.order hi hw == some .lt || FloatKind.f64.format.order hi hw == some .eq) && (FloatKind.f64.format.order lo hi == some .lt))) = false) :
    Calls Try.prog 6 #[.float .f64 lo, .float .f64 hi, .float .f64 fw, .int .i64 17] w (GridPost lo hi w) := by
  have rd := fun w => run_float_arith (P := Try.prog) w .quo 22 .f64 fw 4611686018427387904 hw hd
  have rn := run_neg hneg
  clear hd hneg
  cases h1 : (FloatKind.f64.format.order lo nh == some .gt || FloatKind.f64.format.order lo nh == some .eq)
  · clear h
    go_enter Try.func6, Try.ntmps6
    go_wp2
    go_ret
    exact ⟨⟨false, rfl, by simp⟩, rfl⟩
  · cases h2 : (FloatKind.f64.format.order hi hw == some .lt || FloatKind.f64.format.order hi hw == some .eq)
    · clear h
      go_enter Try.func6, Try.ntmps6
      go_wp2
      go_ret
      exact ⟨⟨false, rfl, by simp⟩, rfl⟩
    · rw [h1, h2, Bool.true_and, Bool.true_and] at h
      go_enter Try.func6, Try.ntmps6
      go_wp2
      go_ret
      exact ⟨⟨false, rfl, by simp⟩, rfl⟩

/-- Between 0 and 2^40: finite. -/
theorem q_fin {q : Nat} {Q : Int} (h : Fl.key q = some Q) (h0 : 0 ≤ Q) (h1 : Q ≤ 1099511627776 * 2 ^ Fl.M0) : Fl.IsF q Q := by
  have f : Fl.IsF 4787326403894837248 (1099511627776 * 2 ^ Fl.M0) := by
    have hr : Ieee.double.read 4787326403894837248 = .number false 4503599627370496 (-12) := by decide
    have hk := Fl.key_p40
    unfold Fl.key at hk
    rw [hr] at hk
    exact ⟨false, 4503599627370496, -12, hr, Option.some.inj hk⟩
  have hb := f.lt_huge
  have hp := Fl.huge_pos
  exact Fl.isF_of_key h (by generalize Fl.huge = g at hp; omega) (Int.lt_of_le_of_lt h1 hb.2)

set_option maxHeartbeats 4000000 in
theorem ongrid_on (lo hi fw hw nh T : Nat) (w : World) (W : Fl.Width fw hw nh T) (hneg : Op.negFloat .f64 hw = nh)
    (h1 : (FloatKind.f64.format.order lo nh == some .gt || FloatKind.f64.format.order lo nh == some .eq) = true) (h2 : (FloatKind.f64.format.order hi hw == some .lt || FloatKind.f64.format.order hi hw == some .eq) = true) (h3 : (FloatKind.f64.format.order lo hi == some .lt) = true) :
    Calls Try.prog 6 #[.float .f64 lo, .float .f64 hi, .float .f64 fw, .int .i64 17] w (GridPost lo hi w) := by
  have rd := fun w => run_float_arith (P := Try.prog) w .quo 22 .f64 fw 4611686018427387904 hw W.half
  have rn := run_neg hneg
  obtain ⟨A, B, fA, fB, hAB⟩ := Fl.range_fin W h1 h2 h3
  obtain ⟨dd, hdd⟩ := Fl.isF_sub fB fA
  have rs := fun w => run_float_arith (P := Try.prog) w .sub 22 .f64 hi lo dd hdd
  obtain ⟨r1, hr1⟩ := Fl.isF_add fA (W.pos 0 (Nat.zero_le _))
  have ra := fun w => run_float_arith (P := Try.prog) w .add 22 .f64 lo hw r1 hr1
  have HC : Hid (Fl.cl r1 = some r1) := (Fl.add_some hr1).2
  have HA : Hid (Fl.IsF lo A ∧ Fl.IsF hi B ∧ ∀ k, k ≤ 17 → Fl.gv (T - k + 29) (-(2 ^ k)) ≤ A ∧ B ≤ Fl.gv (T - k + 29) (2 ^ k)) := ⟨fA, fB, hAB⟩
  have HW : Hid (Fl.Width fw hw nh T) := W
  clear hneg fA fB hAB hdd hr1 W
  go_enter Try.func6, Try.ntmps6
  go_wp2
  go_loop [10, 11] (fun a b => ∃ k : Nat, k ≤ 18 ∧ b = .int .i64 k ∧ a = .float .f64 (fw - k * 4503599627370496)) (fun _ b => 18 - (intOf b).toNat)
  case atStart => exact ⟨0, by omega, rfl, by simp⟩
  case round =>
    obtain ⟨k, hk, rfl, rfl⟩ := hrel
    by_cases hlt : k ≤ 17
    · have hnx := HW.out.next k (by omega)
      have rw' := fun w => run_float_arith (P := Try.prog) w .quo 22 .f64 (fw - k * 4503599627370496) 4611686018427387904 _ hnx
      clear hnx
      have hcell := HW.out.cell k hlt
      have hne : Fl.gv (T - k + 30) 1 ≠ 0 := by
        intro hc
        have := Fl.gv_inj (hc.trans (show (0 : Int) = Fl.gv (T - k + 30) 0 from by simp [Fl.gv]))
        omega
      obtain ⟨q, hq⟩ := Fl.div_isF HC.out hcell hne
      have rq := fun w => run_float_arith (P := Try.prog) w .quo 22 .f64 r1 (fw - k * 4503599627370496) q hq
      clear hq hcell hne
      have HKK : Hid (k ≤ 17) := hlt
      cases he : (FloatKind.f64.format.order dd (fw - k * 4503599627370496) == some .eq)
      · go_wp2
        go_round
        case rel => exact ⟨k + 1, by omega, by go_num, rfl⟩
        case measure => simp [intOf]; omega
      · cases c1 : (FloatKind.f64.format.order q 0 == some .gt || FloatKind.f64.format.order q 0 == some .eq)
        · go_wp2
          go_ret
          exact ⟨⟨false, rfl, by simp⟩, rfl⟩
        · cases c2 : (FloatKind.f64.format.order q 4787326403894837248 == some .gt)
          · obtain ⟨j, hj, hj40⟩ : ∃ j : Nat, floatToIntVal .f64 q .i64 = some (j : Int) ∧ j ≤ 1099511627776 := by
              obtain ⟨Q, z, hQ, hz, hle⟩ := Fl.le_of_geq c1
              rw [Fl.key_zero] at hz
              obtain rfl := Option.some.inj hz
              have hle2 := Fl.le_of_ngt hQ Fl.key_p40 c2
              obtain ⟨j, hj, hb⟩ := Fl.toInt_bd (q_fin hQ hle hle2) hle hle2
              refine ⟨j, ?_, hb⟩
              have hj' : (FloatKind.f64.decode q).toInt .zero = some (j : Int) := hj
              unfold floatToIntVal
              rw [hj']
              simp [IntKind.min, IntKind.max, IntKind.signed, IntKind.bits]
              omega
            have rc := fun w => run_convert_float_int (P := Try.prog) w 22 2 .f64 .i64 q (j : Int) (by rw [Try.underlying22]; rfl) Try.underlying2 hj
            have e1 := ofInt_nat j
            have e2 : floatOfInt .f64 ((j : Int) + 1) = Ieee.double.nearest false (j + 1) 0 := by rw [show (j : Int) + 1 = ((j + 1 : Nat) : Int) from by omega]; exact ofInt_nat (j + 1)
            clear hj
            obtain ⟨x1, y1, hx1, hy1, fy1⟩ := Fl.line_j (j := j) HW.out hlt (by omega)
            obtain ⟨x2, y2, hx2, hy2, fy2⟩ := Fl.line_j (j := j + 1) HW.out hlt (by omega)
            have rm1 := fun w => run_float_arith (P := Try.prog) w .mul 22 .f64 (Ieee.double.nearest false j 0) (fw - k * 4503599627370496) x1 hx1
            have rp1 := fun w => run_float_arith (P := Try.prog) w .add 22 .f64 nh x1 y1 hy1
            have rm2 := fun w => run_float_arith (P := Try.prog) w .mul 22 .f64 (Ieee.double.nearest false (j + 1) 0) (fw - k * 4503599627370496) x2 hx2
            have rp2 := fun w => run_float_arith (P := Try.prog) w .add 22 .f64 nh x2 y2 hy2
            have HY : Hid (Fl.IsF y1 (Fl.gv (T - k + 29) (2 * (j : Int) - 2 ^ k)) ∧ Fl.IsF y2 (Fl.gv (T - k + 29) (2 * ((j + 1 : Nat) : Int) - 2 ^ k))) := ⟨fy1, fy2⟩
            clear hx1 hy1 fy1 hx2 hy2 fy2
            generalize Ieee.double.nearest false j 0 = pj at e1 rm1
            generalize Ieee.double.nearest false (j + 1) 0 = pj1 at e2 rm2
            cases c3 : (FloatKind.f64.format.order pj q == some .eq)
            · go_wp2
              go_ret
              exact ⟨⟨false, rfl, by simp⟩, rfl⟩
            · cases c4 : (FloatKind.f64.format.order y1 lo == some .eq)
              · go_wp2
                go_ret
                exact ⟨⟨false, rfl, by simp⟩, rfl⟩
              · cases c5 : (FloatKind.f64.format.order y2 hi == some .eq)
                · go_wp2
                  go_ret
                  exact ⟨⟨false, rfl, by simp⟩, rfl⟩
                · have HO : Hid (Fl.OnGrid lo hi) := Fl.onGrid_of HW.out hlt HA.out.1 HA.out.2.1 (HA.out.2.2 k hlt) HY.out.1 HY.out.2 c4 c5
                  go_wp2
                  go_ret
                  exact ⟨⟨true, rfl, fun _ => HO.out⟩, rfl⟩
          · go_wp2
            go_ret
            exact ⟨⟨false, rfl, by simp⟩, rfl⟩
    · go_wp2
      go_ret
      exact ⟨⟨false, rfl, by simp⟩, rfl⟩

end Go.Proofs.Qxb6604197a
