/-
  THE WALK OF FnNumberEndShiftsWithStart (6).
-/
import Derived.Test.Qxb6604033aNumCalls
import Derived.Test.Qxb6604033aCopy
import Derived.Test.Qxb6604033aBytes
import Derived.Test.Qxb6604033aLaws
namespace Go.Proofs.Qxb6604033a
open Go.RowKit

/-- A slice that is too long: true at once. -/
theorem shift_long (a : Option Addr) (n c : Nat) (i : Int) (w : World) (hn : 1048576 < n) :
    Calls Try.prog 6 #[.slice a n c, .int .i64 i] w fun e w' => e = .returned (.bool true) ∧ Below w.heap.size w w' := by
  go_enter Try.func6, Try.ntmps6
  go_wp2_with (go_at_call 16; refine (bytes16_no a n c i _ hn).mono ?_; rintro e w' ⟨rfl, rfl⟩)
  go_ret
  exact ⟨rfl, Below.refl _ _⟩

/-- A start below 0: true at once. -/
theorem shift_neg (a : Option Addr) (n c : Nat) (i : Int) (w : World) (hn : n ≤ 1048576) (hi : i < 0) :
    Calls Try.prog 6 #[.slice a n c, .int .i64 i] w fun e w' => e = .returned (.bool true) ∧ Below w.heap.size w w' := by
  have h1 : ¬ (1048576 : Int) < (n : Int) := by omega
  go_enter Try.func6, Try.ntmps6
  go_wp2_with (go_at_call 16; refine (bytes16_yes a n c i _ hn).mono ?_; rintro e w' ⟨rfl, rfl⟩)
  go_ret
  exact ⟨rfl, Below.refl _ _⟩

/-- The nil slice, a start past its end. -/
theorem shift_nil (i : Nat) (w : World) (hi : i ≤ 9223372036854775807) (h0 : 0 < i) :
    Calls Try.prog 6 #[.slice none 0 0, .int .i64 i] w fun e w' => e = .returned (.bool true) ∧ Below w.heap.size w w' := by
  have h2 : ¬ (i : Int) < 0 := by omega
  have h3 : (0 : Int) < (i : Int) := by omega
  have hne := fun w => run_neq_slice_nil_any (P := Try.prog) w 22 5 none 0 0 0 0 Try.underlying22
  go_enter Try.func6, Try.ntmps6
  go_wp2_with (first | (go_at_call 16; refine (bytes16_yes none 0 0 i _ (by omega)).mono ?_; rintro e w' ⟨rfl, rfl⟩) | (go_at_call 15; refine (ZZ_nil i _ hi).mono ?_; rintro e w' ⟨rfl, rfl⟩))
  go_ret
  exact ⟨rfl, Below.refl _ _⟩

/-- The nil slice, at 0. -/
theorem shift_nil0 (w : World) :
    Calls Try.prog 6 #[.slice none 0 0, .int .i64 0] w fun e w' => e = .returned (.bool true) ∧ Below w.heap.size w w' := by
  have hne := fun w => run_neq_slice_nil_any (P := Try.prog) w 22 5 none 0 0 0 0 Try.underlying22
  go_enter Try.func6, Try.ntmps6
  go_wp2_with (first | (go_at_call 16; refine (bytes16_yes none 0 0 0 _ (by omega)).mono ?_; rintro e w' ⟨rfl, rfl⟩) | (go_at_call 15; refine (ZZ_nil 0 _ (by omega)).mono ?_; rintro e w' ⟨rfl, rfl⟩))
  go_ret
  exact ⟨rfl, Below.refl _ _⟩

set_option maxHeartbeats 400000 in
/-- A start past the end. -/
theorem shift_past (x : Addr) (n c : Nat) (z : Nat → Int) (i : Nat) (w : World) (hn : n ≤ 1048576) (hi : i ≤ 9223372036854775807) (hlt : n < i)
    (hz : ∀ k, 0 ≤ z k ∧ z k ≤ 255) (hsrc : ∀ k, k < n → w.cell? (x.add k) = some (.int .u8 (z k))) :
    Calls Try.prog 6 #[.slice (some x) n c, .int .i64 i] w fun e w' => e = .returned (.bool true) ∧ Below w.heap.size w w' := by
  have h1 : ¬ (1048576 : Int) < (n : Int) := by omega
  have h2 : ¬ (i : Int) < 0 := by omega
  have hmk := made_run n (by omega)
  have hne := fun w => run_neq_slice_nil_any (P := Try.prog) w 22 5 (some x) n c 0 0 Try.underlying22
  obtain ⟨w2, hcp, hc2, hb2⟩ := copied x n c z w hsrc
  have HC : Hid (∀ k, k < n → w2.cell? ⟨w.heap.size, 0 + k, none⟩ = some (.int .u8 (z k))) := fun k hk => by rw [Nat.zero_add]; exact hc2 k hk
  clear hc2 hsrc
  have HR : Hid (Qb33.res (Qb33.nEnd z n i) = -1) := by rw [Qb33.nEnd_out (by omega)]; rfl
  have h3 : (n : Int) < (i : Int) := by omega
  go_enter Try.func6, Try.ntmps6
  go_wp2_with (first | (go_at_call 16; refine (bytes16_yes (some x) n c i _ hn).mono ?_; rintro e w' ⟨rfl, rfl⟩) | (go_at_call 15; refine (ZZ_at w.heap.size 0 n n z i (-1) HR _ _ hn hi hz HC.out rfl).mono ?_; rintro e w' ⟨rfl, rfl⟩))
  go_ret
  exact ⟨rfl, hb2⟩

set_option maxHeartbeats 400000 in
/-- A start at the end. -/
theorem shift_end (x : Addr) (n c : Nat) (z : Nat → Int) (w : World) (hn : n ≤ 1048576)
    (hz : ∀ k, 0 ≤ z k ∧ z k ≤ 255) (hsrc : ∀ k, k < n → w.cell? (x.add k) = some (.int .u8 (z k))) :
    Calls Try.prog 6 #[.slice (some x) n c, .int .i64 n] w fun e w' => e = .returned (.bool true) ∧ Below w.heap.size w w' := by
  have h1 : ¬ (1048576 : Int) < (n : Int) := by omega
  have h2 : ¬ (n : Int) < 0 := by omega
  have hmk := made_run n (by omega)
  have hne := fun w => run_neq_slice_nil_any (P := Try.prog) w 22 5 (some x) n c 0 0 Try.underlying22
  obtain ⟨w2, hcp, hc2, hb2⟩ := copied x n c z w hsrc
  have HC : Hid (∀ k, k < n → w2.cell? ⟨w.heap.size, 0 + k, none⟩ = some (.int .u8 (z k))) := fun k hk => by rw [Nat.zero_add]; exact hc2 k hk
  clear hc2 hsrc
  have HA : Hid (Qb33.res (Qb33.nEnd z n n) = -1) := by rw [Qb33.nEnd_out (Nat.le_refl _)]; rfl
  have HB : Hid (Qb33.res (Qb33.nEnd z 0 0) = -1) := by rw [Qb33.nEnd_out (Nat.le_refl _)]; rfl
  go_enter Try.func6, Try.ntmps6
  go_wp2_with (first | (go_at_call 16; refine (bytes16_yes (some x) n c n _ hn).mono ?_; rintro e w' ⟨rfl, rfl⟩))
  refine (ZZ_at w.heap.size 0 n n z n (-1) HA _ _ hn (by omega) hz HC.out rfl).mono ?_
  rintro e w' ⟨rfl, rfl⟩
  go_wp2_with fail
  refine (ZZ_at w.heap.size 0 0 0 z 0 (-1) HB _ _ (by omega) (by omega) hz (fun k hk => by omega) rfl).mono ?_
  rintro e w' ⟨rfl, rfl⟩
  go_wp2
  go_ret
  exact ⟨rfl, hb2⟩

set_option maxHeartbeats 400000 in
theorem shift_any (x : Addr) (n c : Nat) (z : Nat → Int) (i : Nat) (w : World) (hn : n ≤ 1048576) (hle : i < n)
    (hz : ∀ k, 0 ≤ z k ∧ z k ≤ 255) (hsrc : ∀ k, k < n → w.cell? (x.add k) = some (.int .u8 (z k))) :
    Calls Try.prog 6 #[.slice (some x) n c, .int .i64 i] w fun e w' => e = .returned (.bool true) ∧ Below w.heap.size w w' := by
  have h1 : ¬ (1048576 : Int) < (n : Int) := by omega
  have h2 : ¬ (i : Int) < 0 := by omega
  have h3 : ¬ (n : Int) < (i : Int) := by omega
  have hmk := made_run n (by omega)
  have hne := fun w => run_neq_slice_nil_any (P := Try.prog) w 22 5 (some x) n c 0 0 Try.underlying22
  obtain ⟨w2, hcp, hc2, hb2⟩ := copied x n c z w hsrc
  have HC : Hid (∀ k, k < n → w2.cell? ⟨w.heap.size, 0 + k, none⟩ = some (.int .u8 (z k))) := fun k hk => by rw [Nat.zero_add]; exact hc2 k hk
  have HC2 : Hid (∀ k, k < n - i → w2.cell? ⟨w.heap.size, i + k, none⟩ = some (.int .u8 (z (i + k)))) := fun k hk => hc2 (i + k) (by omega)
  clear hc2 hsrc
  have hsh := Qb33.nEnd_shift z n i 0 (by omega)
  rw [Nat.add_zero] at hsh
  cases hN : Qb33.nEnd (fun k => z (i + k)) (n - i) 0 with
  | none =>
    have HB : Hid (Qb33.res (Qb33.nEnd (fun k => z (i + k)) (n - i) 0) = -1) := by rw [hN]; rfl
    have HA : Hid (Qb33.res (Qb33.nEnd z n i) = -1) := by rw [hsh, hN]; rfl
    clear hN hsh
    go_enter Try.func6, Try.ntmps6
    go_wp2_with (first | (go_at_call 16; refine (bytes16_yes (some x) n c i _ hn).mono ?_; rintro e w' ⟨rfl, rfl⟩))
    refine (ZZ_at w.heap.size 0 n n z i (-1) HA _ _ hn (by omega) hz HC.out rfl).mono ?_
    rintro e w' ⟨rfl, rfl⟩
    go_wp2_with fail
    refine (ZZ_at w.heap.size i (n - i) (n - i) (fun k => z (i + k)) 0 (-1) HB _ _ (by omega) (by omega) (fun k => hz (i + k)) HC2.out rfl).mono ?_
    rintro e w' ⟨rfl, rfl⟩
    go_wp2
    go_ret
    exact ⟨rfl, hb2⟩
  | some r =>
    have HB : Hid (Qb33.res (Qb33.nEnd (fun k => z (i + k)) (n - i) 0) = r) := by rw [hN]; rfl
    have HA : Hid (Qb33.res (Qb33.nEnd z n i) = ((i + r : Nat) : Int)) := by rw [hsh, hN]; rfl
    have hb := Qb33.nEnd_bd hN
    clear hN hsh
    have g1 : ¬ (r : Int) < 0 := by omega
    go_enter Try.func6, Try.ntmps6
    go_wp2_with (first | (go_at_call 16; refine (bytes16_yes (some x) n c i _ hn).mono ?_; rintro e w' ⟨rfl, rfl⟩))
    refine (ZZ_at w.heap.size 0 n n z i ((i + r : Nat) : Int) HA _ _ hn (by omega) hz HC.out rfl).mono ?_
    rintro e w' ⟨rfl, rfl⟩
    go_wp2_with fail
    refine (ZZ_at w.heap.size i (n - i) (n - i) (fun k => z (i + k)) 0 r HB _ _ (by omega) (by omega) (fun k => hz (i + k)) HC2.out rfl).mono ?_
    rintro e w' ⟨rfl, rfl⟩
    go_wp2
    go_ret
    exact ⟨by simp; omega, hb2⟩

end Go.Proofs.Qxb6604033a
