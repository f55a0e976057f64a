/-
  THE WALK OF FnKeySpansCoverEveryKeyAndOnly180More (5).
-/
import Derived.Test.Qxb6604197aBox
import Derived.Test.Qxb6604197aSame
import Derived.Deep.CutRange
namespace Go.Proofs.Qxb6604197a
open Go.RowKit
attribute [local go_sem] run_store_float

abbrev fo (x y : Nat) : Option Ordering := FloatKind.f64.format.order x y

theorem cmp_ngt {a b : Int} (h : a ≤ b) : (compare a b == .gt) = false := by
  rcases Int.lt_trichotomy a b with h1 | h1 | h1
  · rw [Fl.cmp_lt h1]; rfl
  · rw [Fl.cmp_eq h1]; rfl
  · omega

set_option maxHeartbeats 400000 in
set_option maxRecDepth 100000 in
theorem ks_bad (so we no ea x : Nat) (w : World) (h : (Fl.okLon we && Fl.okLon ea) = false) :
    Calls Try.prog 5 #[F so, F we, F no, F ea, F x] w fun e w' => e = .returned (.bool true) ∧ Below w.heap.size w w' := by
  have HH : Hid ((Fl.okLon we && Fl.okLon ea) = false) := h
  clear h
  go_enter Try.func5, Try.ntmps5
  go_upto_region 1 with fail
  go_cut [34] from 19 (fun t wc => t = .bool (!(Fl.okLon we && Fl.okLon ea)) ∧ wc = w)
  case first =>
    have HO1 : Hid (Fl.okLon we = ((fo we m180 == some .gt || fo we m180 == some .eq) && (fo we c180 == some .lt || fo we c180 == some .eq))) := rfl
    have HO2 : Hid (Fl.okLon ea = ((fo ea m180 == some .gt || fo ea m180 == some .eq) && (fo ea c180 == some .lt || fo ea c180 == some .eq))) := rfl
    go_wp2
    all_goals
      go_meet
      case rel =>
        refine ⟨?_, rfl⟩
        rw [HO1.out, HO2.out]
        simp_all
  case rest =>
    obtain ⟨rfl, rfl⟩ := hcut
    rw [HH.out]
    go_wp2
    go_ret
    exact ⟨rfl, Below.refl _ _⟩

end Go.Proofs.Qxb6604197a
