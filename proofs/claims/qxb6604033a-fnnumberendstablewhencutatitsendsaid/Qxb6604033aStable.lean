/-
  THE WALK OF FnNumberEndStableWhenCutAtItsEnd (7).
-/
import Derived.Test.Qxb6604033aNumCalls
import Derived.Test.Qxb6604033aCopy
import Derived.Test.Qxb6604033aBytes
import Derived.Test.Qxb6604033aLaws
namespace Go.Proofs.Qxb6604033a
open Go.RowKit

/-- A slice that is too long: true at once. -/
theorem stable_long (a : Option Addr) (n c : Nat) (i : Int) (w : World) (hn : 1048576 < n) :
    Calls Try.prog 7 #[.slice a n c, .int .i64 i] w fun e w' => e = .returned (.bool true) ∧ Below w.heap.size w w' := by
  go_enter Try.func7, Try.ntmps7
  go_wp2_with (go_at_call 17; refine (bytes17_no a n c i _ hn).mono ?_; rintro e w' ⟨rfl, rfl⟩)
  go_ret
  exact ⟨rfl, Below.refl _ _⟩

/-- A start below 0: true at once. -/
theorem stable_neg (a : Option Addr) (n c : Nat) (i : Int) (w : World) (hn : n ≤ 1048576) (hi : i < 0) :
    Calls Try.prog 7 #[.slice a n c, .int .i64 i] w fun e w' => e = .returned (.bool true) ∧ Below w.heap.size w w' := by
  have h1 : ¬ (1048576 : Int) < (n : Int) := by omega
  go_enter Try.func7, Try.ntmps7
  go_wp2_with (go_at_call 17; refine (bytes17_yes a n c i _ hn).mono ?_; rintro e w' ⟨rfl, rfl⟩)
  go_ret
  exact ⟨rfl, Below.refl _ _⟩

/-- The nil slice. -/
theorem stable_nil (i : Nat) (w : World) (hi : i ≤ 9223372036854775807) :
    Calls Try.prog 7 #[.slice none 0 0, .int .i64 i] w fun e w' => e = .returned (.bool true) ∧ Below w.heap.size w w' := by
  have h2 : ¬ (i : Int) < 0 := by omega
  have hne := fun w => run_neq_slice_nil_any (P := Try.prog) w 22 5 none 0 0 0 0 Try.underlying22
  go_enter Try.func7, Try.ntmps7
  go_wp2_with (first | (go_at_call 17; refine (bytes17_yes none 0 0 i _ (by omega)).mono ?_; rintro e w' ⟨rfl, rfl⟩) | (go_at_call 15; refine (ZZ_nil i _ hi).mono ?_; rintro e w' ⟨rfl, rfl⟩))
  go_ret
  exact ⟨rfl, Below.refl _ _⟩

set_option maxHeartbeats 400000 in
theorem stable_any (x : Addr) (n c : Nat) (z : Nat → Int) (i : Nat) (w : World) (hn : n ≤ 1048576) (hi : i ≤ 9223372036854775807)
    (hz : ∀ k, 0 ≤ z k ∧ z k ≤ 255) (hsrc : ∀ k, k < n → w.cell? (x.add k) = some (.int .u8 (z k))) :
    Calls Try.prog 7 #[.slice (some x) n c, .int .i64 i] w fun e w' => e = .returned (.bool true) ∧ Below w.heap.size w w' := by
  have h1 : ¬ (1048576 : Int) < (n : Int) := by omega
  have h2 : ¬ (i : Int) < 0 := by omega
  have hmk := made_run n (by omega)
  have hne := fun w => run_neq_slice_nil_any (P := Try.prog) w 22 5 (some x) n c 0 0 Try.underlying22
  obtain ⟨w2, hcp, hc2, hb2⟩ := copied x n c z w hsrc
  have HC : Hid (∀ k, k < n → w2.cell? ⟨w.heap.size, 0 + k, none⟩ = some (.int .u8 (z k))) := fun k hk => by rw [Nat.zero_add]; exact hc2 k hk
  clear hc2 hsrc
  cases hN : Qb33.nEnd z n i with
  | none =>
    have HR : Hid (Qb33.res (Qb33.nEnd z n i) = -1) := by rw [hN]; rfl
    clear hN
    go_enter Try.func7, Try.ntmps7
    go_wp2_with (first | (go_at_call 17; refine (bytes17_yes (some x) n c i _ hn).mono ?_; rintro e w' ⟨rfl, rfl⟩) | (go_at_call 15; refine (ZZ_at w.heap.size 0 n n z i (-1) HR _ _ hn hi hz HC.out rfl).mono ?_; rintro e w' ⟨rfl, rfl⟩))
    go_ret
    exact ⟨rfl, hb2⟩
  | some r =>
    have HR : Hid (Qb33.res (Qb33.nEnd z n i) = r) := by rw [hN]; rfl
    have HR2 : Hid (Qb33.res (Qb33.nEnd z r i) = r) := by rw [Qb33.nEnd_cut hN]; rfl
    have hb := Qb33.nEnd_bd hN
    clear hN
    have g1 : ¬ (r : Int) < 0 := by omega
    have g2 : ¬ (r : Int) ≤ (i : Int) := by omega
    have g3 : ¬ (n : Int) < (r : Int) := by omega
    have HC2 : Hid (∀ k, k < r → w2.cell? ⟨w.heap.size, 0 + k, none⟩ = some (.int .u8 (z k))) := fun k hk => HC.out k (by omega)
    go_enter Try.func7, Try.ntmps7
    go_wp2_with (first | (go_at_call 17; refine (bytes17_yes (some x) n c i _ hn).mono ?_; rintro e w' ⟨rfl, rfl⟩))
    refine (ZZ_at w.heap.size 0 n n z i r HR _ _ hn hi hz HC.out rfl).mono ?_
    rintro e w' ⟨rfl, rfl⟩
    go_wp2_with fail
    refine (ZZ_at w.heap.size 0 r n z i r HR2 _ _ (by omega) hi hz HC2.out rfl).mono ?_
    rintro e w' ⟨rfl, rfl⟩
    go_wp2
    go_ret
    exact ⟨by simp, hb2⟩

end Go.Proofs.Qxb6604033a
