/-
  THE WALK OF same (11) at one and the same word: true, whatever the word.
-/
import Derived.Test.Qxb6604197aSpans
import Derived.Test.Qxb6604197aKeys
namespace Go.Proofs.Qxb6604197a
open Go.RowKit

set_option maxHeartbeats 400000 in
theorem same_self (x : Nat) (w : World) : Calls Try.prog 11 #[F x, F x] w fun e w' => e = .returned (.bool true) ∧ w = w' := by
  cases hk : Fl.key x with
  | none =>
    have h : FloatKind.f64.format.order x x = none := Fl.ord_nan_l hk
    clear hk
    go_enter Try.func11, Try.ntmps11
    go_wp2
    go_ret
    exact ⟨rfl, rfl⟩
  | some a =>
    have h : FloatKind.f64.format.order x x = some .eq := Fl.ord_eq hk hk rfl
    clear hk
    by_cases h0 : FloatKind.f64.format.order x 0 = some .eq
    · obtain ⟨r, hr, hrr⟩ := Fl.inv_zero h0
      have hrr2 : FloatKind.f64.format.order r r = some .eq := hrr
      have hq := fun w => run_float_arith (P := Try.prog) w .quo 22 .f64 4607182418800017408 x r hr
      clear hr hrr
      go_enter Try.func11, Try.ntmps11
      go_wp2
      go_ret
      exact ⟨rfl, rfl⟩
    · have h0' : (FloatKind.f64.format.order x 0 != some .eq) = true := by simpa using h0
      clear h0
      go_enter Try.func11, Try.ntmps11
      go_wp2
      go_ret
      exact ⟨rfl, rfl⟩

end Go.Proofs.Qxb6604197a
