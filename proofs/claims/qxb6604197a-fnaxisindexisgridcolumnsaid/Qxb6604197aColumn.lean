/-
  THE WALK OF FnAxisIndexIsGridColumn (3).
-/
import Derived.Test.Qxb6604197aOnGridWalk
import Derived.Test.Qxb6604197aAxisWalk
namespace Go.Proofs.Qxb6604197a
open Go.RowKit

theorem ongrid_any (lo hi fw hw nh T : Nat) (w : World) (W : Fl.Width fw hw nh T) (hneg : Op.negFloat .f64 hw = nh) :
    Calls Try.prog 6 #[.float .f64 lo, .float .f64 hi, .float .f64 fw, .int .i64 17] w (GridPost lo hi w) := by
  cases h : ((FloatKind.f64.format.order lo nh == some .gt || FloatKind.f64.format.order lo nh == some .eq) && ((FloatKind.f64.format.order hi hw == some .lt || FloatKind.f64.format.order hi hw == some .eq) && (FloatKind.f64.format.order lo hi == some .lt)))
  · exact ongrid_off lo hi fw hw nh w W.half hneg h
  · rw [Bool.and_eq_true, Bool.and_eq_true] at h
    exact ongrid_on lo hi fw hw nh T w W hneg h.1 h.2.1 h.2.2

theorem neg360 : Op.negFloat .f64 4640537203540230144 = 13863909240395005952 := by decide
theorem neg180 : Op.negFloat .f64 4636033603912859648 = 13859405640767635456 := by decide

/-- On a grid both reckon the same column. -/
theorem column_eq {v lo hi t : Nat} {L : Int} (ht : t ≤ 1100) (hL : -70368744177664 ≤ L) (hL2 : L + 1073741824 ≤ 70368744177664) (hl : Fl.IsF lo (Fl.gv t L)) (hh : Fl.IsF hi (Fl.gv t (L + 1073741824))) :
    (Fl.ax v (Fl.cl lo) (Fl.cl hi) 30).1 = Fl.sq (fun m => Fl.pk v (Fl.gv t (L + m))) 30 := by
  obtain ⟨a, b, h, _, _⟩ := Fl.ax_grid v lo hi t L (by omega) hL hL2 hl hh 30 (Nat.le_refl _)
  rw [h]

theorem ret_bool'' {a b : Bool} (h : a = b) : Ending.returned (.bool a) = .returned (.bool b) := by rw [h]

set_option maxHeartbeats 1000000 in
theorem column_law (v lo hi : Nat) (w : World) :
    Calls Try.prog 3 #[.float .f64 v, .float .f64 lo, .float .f64 hi] w fun e w' => e = .returned (.bool true) ∧ Below w.heap.size w w' := by
  go_enter Try.func3, Try.ntmps3
  go_wp2_with fail
  refine (ongrid_any lo hi _ _ _ _ _ Fl.width360 neg360).mono ?_
  rintro e w' ⟨⟨b1, rfl, hb1⟩, rfl⟩
  cases b1
  · clear hb1
    go_wp2_with fail
    refine (ongrid_any lo hi _ _ _ _ _ Fl.width180 neg180).mono ?_
    rintro e w' ⟨⟨b2, rfl, hb2⟩, rfl⟩
    cases b2
    · clear hb2
      go_wp2
      go_ret
      exact ⟨rfl, Below.refl _ _⟩
    · obtain ⟨t, L, ht, hL, hL2, hl, hh⟩ := hb2 rfl
      have HEQ : Hid ((Fl.ax v (Fl.cl lo) (Fl.cl hi) 30).1 = Fl.sq (fun m => Fl.pk v (Fl.gv t (L + m))) 30) := column_eq ht hL hL2 hl hh
      have HG : Hid (Fl.IsF lo (Fl.gv t L) ∧ Fl.IsF hi (Fl.gv t (L + 1073741824))) := ⟨hl, hh⟩
      clear hb2 hl hh
      go_wp2_with fail
      refine (ZZaxis_any v lo hi _).mono ?_
      rintro e w1 ⟨rfl, hb⟩
      rw [HEQ.out]
      go_wp2_with fail
      refine (grid_any v lo hi t L _ ht hL hL2 HG.out.1 HG.out.2).mono ?_
      rintro e w2 ⟨rfl, rfl⟩
      go_wp2
      go_ret
      exact ⟨ret_bool'' (by simp), hb⟩
  · obtain ⟨t, L, ht, hL, hL2, hl, hh⟩ := hb1 rfl
    have HEQ : Hid ((Fl.ax v (Fl.cl lo) (Fl.cl hi) 30).1 = Fl.sq (fun m => Fl.pk v (Fl.gv t (L + m))) 30) := column_eq ht hL hL2 hl hh
    have HG : Hid (Fl.IsF lo (Fl.gv t L) ∧ Fl.IsF hi (Fl.gv t (L + 1073741824))) := ⟨hl, hh⟩
    clear hb1 hl hh
    go_wp2_with fail
    refine (ZZaxis_any v lo hi _).mono ?_
    rintro e w1 ⟨rfl, hb⟩
    rw [HEQ.out]
    go_wp2_with fail
    refine (grid_any v lo hi t L _ ht hL hL2 HG.out.1 HG.out.2).mono ?_
    rintro e w2 ⟨rfl, rfl⟩
    go_wp2
    go_ret
    exact ⟨ret_bool'' (by simp), hb⟩

end Go.Proofs.Qxb6604197a
