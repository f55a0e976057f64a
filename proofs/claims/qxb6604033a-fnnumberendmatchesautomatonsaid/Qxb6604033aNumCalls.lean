/-
  ZZnumberEnd (15): by the contract of numberEnd; at a nil slice.
-/
import Derived.Test.Qxb6604033aNum
namespace Go.Proofs.Qxb6604033a
open Go.RowKit

/-- A nil slice holds no number. -/
theorem numberEnd_nil (i : Nat) (w : World) (hi : i ≤ 9223372036854775807) :
    Calls Try.prog 20 #[.slice none 0 0, .int .i64 i] w fun e w' => e = .returned (.int .i64 (-1)) ∧ w = w' := by
  have h : ¬ (i : Int) < 0 := by omega
  go_enter Try.func20, Try.ntmps20
  go_wp2
  go_ret
  exact ⟨rfl, rfl⟩

theorem ZZ_nil (i : Nat) (w : World) (hi : i ≤ 9223372036854775807) :
    Calls Try.prog 15 #[.slice none 0 0, .int .i64 i] w fun e w' => e = .returned (.int .i64 (-1)) ∧ w = w' := by
  go_enter Try.func15, Try.ntmps15
  go_wp2_with (go_at_call 20; refine (numberEnd_nil i _ hi).mono ?_; rintro e w' ⟨rfl, rfl⟩)
  go_ret
  exact ⟨rfl, rfl⟩

/-- 'ZZnumberEnd' at a slice whose cells are known. -/
theorem ZZ_at (b off n c : Nat) (z : Nat → Int) (i : Nat) (r : Int) (hr : Hid (Qb33.res (Qb33.nEnd z n i) = r)) (j : Int) (w : World) (hn : n ≤ 1048576) (hi : i ≤ 9223372036854775807)
    (hz : ∀ k, 0 ≤ z k ∧ z k ≤ 255) (hc : ∀ k, k < n → w.cell? ⟨b, off + k, none⟩ = some (.int .u8 (z k))) (hj : j = (i : Nat)) :
    Calls Try.prog 15 #[.slice (some ⟨b, off, none⟩) n c, .int .i64 j] w fun e w' => e = .returned (.int .i64 r) ∧ w = w' := by
  subst hj
  have HC : Hid (∀ k, k < n → w.cell? ⟨b, off + k, none⟩ = some (.int .u8 (z k))) := hc
  clear hc
  go_enter Try.func15, Try.ntmps15
  go_wp2_with (go_at_call 20; refine (numberEnd_any b off n c z i _ hn hi hz HC.out).mono ?_; rintro e w' ⟨rfl, rfl⟩)
  go_ret
  exact ⟨ret_int hr.out, rfl⟩

end Go.Proofs.Qxb6604033a
