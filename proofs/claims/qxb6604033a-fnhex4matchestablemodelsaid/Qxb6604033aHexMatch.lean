/-
  THE WALK OF FnHex4MatchesTableModel (3).
-/
import Derived.Test.Qxb6604033aHexTable
import Derived.Test.Qxb6604033aCopy
import Derived.Test.Qxb6604033aBytes
namespace Go.Proofs.Qxb6604033a
open Go.RowKit

/-- A slice that is too long: true at once. -/
theorem match_long (a : Option Addr) (n c : Nat) (w : World) (hn : 1048576 < n) :
    Calls Try.prog 3 #[.slice a n c] w fun e w' => e = .returned (.bool true) ∧ Below w.heap.size w w' := by
  go_enter Try.func3, Try.ntmps3
  go_wp2_with (go_at_call 8; refine (bytes8_no a n c _ hn).mono ?_; rintro e w' ⟨rfl, rfl⟩)
  go_ret
  exact ⟨rfl, Below.refl _ _⟩

/-- The nil slice. -/
theorem match_nil (w : World) :
    Calls Try.prog 3 #[.slice none 0 0] w fun e w' => e = .returned (.bool true) ∧ Below w.heap.size w w' := by
  have hne := fun w => run_neq_slice_nil_any (P := Try.prog) w 22 5 none 0 0 0 0 Try.underlying22
  go_enter Try.func3, Try.ntmps3
  go_wp2_with (first | (go_at_call 8; refine (bytes8_yes none 0 0 _ (by omega)).mono ?_; rintro e w' ⟨rfl, rfl⟩) | (go_at_call 9; refine (ZZhex_short none 0 0 _ (by omega)).mono ?_; rintro e w' ⟨rfl, rfl⟩))
  go_ret
  exact ⟨rfl, Below.refl _ _⟩

set_option maxHeartbeats 400000 in
/-- Fewer than four bytes. -/
theorem match_short (x : Addr) (n c : Nat) (z : Nat → Int) (w : World) (hn : n < 4)
    (hsrc : ∀ k, k < n → w.cell? (x.add k) = some (.int .u8 (z k))) :
    Calls Try.prog 3 #[.slice (some x) n c] w fun e w' => e = .returned (.bool true) ∧ Below w.heap.size w w' := by
  have h1 : ¬ (1048576 : Int) < (n : Int) := by omega
  have h4 : ¬ (4 : Int) ≤ (n : Int) := by omega
  have hmk := made_run n (by omega)
  have hne := fun w => run_neq_slice_nil_any (P := Try.prog) w 22 5 (some x) n c 0 0 Try.underlying22
  obtain ⟨w2, hcp, hc2, hb2⟩ := copied x n c z w hsrc
  clear hc2 hsrc
  go_enter Try.func3, Try.ntmps3
  go_wp2_with (first | (go_at_call 8; refine (bytes8_yes (some x) n c _ (by omega)).mono ?_; rintro e w' ⟨rfl, rfl⟩) | (go_at_call 9; refine (ZZhex_short (some ⟨w.heap.size, 0, none⟩) n n _ hn).mono ?_; rintro e w' ⟨rfl, rfl⟩))
  go_ret
  exact ⟨rfl, hb2⟩

set_option maxHeartbeats 1000000 in
theorem match_all (x : Addr) (n c : Nat) (z : Nat → Int) (w : World) (hn : 4 ≤ n) (hn2 : n ≤ 1048576) (d0 d1 d2 d3 : Int)
    (e0 : Qb33.hv (z 0) = some d0) (e1 : Qb33.hv (z 1) = some d1) (e2 : Qb33.hv (z 2) = some d2) (e3 : Qb33.hv (z 3) = some d3) 
    (hz : ∀ k, 0 ≤ z k ∧ z k ≤ 255) (hsrc : ∀ k, k < n → w.cell? (x.add k) = some (.int .u8 (z k))) :
    Calls Try.prog 3 #[.slice (some x) n c] w fun e w' => e = .returned (.bool true) ∧ Below w.heap.size w w' := by
  have h1 : ¬ (1048576 : Int) < (n : Int) := by omega
  have h4 : (4 : Int) ≤ (n : Int) := by omega
  have hmk := made_run n (by omega)
  have hne := fun w => run_neq_slice_nil_any (P := Try.prog) w 22 5 (some x) n c 0 0 Try.underlying22
  obtain ⟨w2, hcp, hc2, hb2⟩ := copied x n c z w hsrc
  have HC : Hid (∀ k, k < 4 → w2.cell? ⟨w.heap.size, 0 + k, none⟩ = some (.int .u8 (z k))) := fun k hk => by rw [Nat.zero_add]; exact hc2 k (by omega)
  have c0 := hc2 0 (by omega)
  have c1 := hc2 1 (by omega)
  have c2 := hc2 2 (by omega)
  have c3 := hc2 3 (by omega)
  clear hc2 hsrc
  have b0 := Qb33.hv_bd e0
  have b1 := Qb33.hv_bd e1
  have b2 := Qb33.hv_bd e2
  have b3 := Qb33.hv_bd e3
  have HF := Qb33.hex_four e0 e1 e2 e3
  have HR : Hid (Qb33.hexR z = d0 * 4096 + d1 * 256 + d2 * 16 + d3) := by show _ = _; simp [Qb33.hexR, HF]
  have HO : Hid (Qb33.hexOK z = true) := by show _ = _; simp [Qb33.hexOK, HF]
  clear HF
  have E0 : Hid (Qb33.hv (z 0) = some d0) := e0
  have E1 : Hid (Qb33.hv (z 1) = some d1) := e1
  have E2 : Hid (Qb33.hv (z 2) = some d2) := e2
  have E3 : Hid (Qb33.hv (z 3) = some d3) := e3
  clear e0 e1 e2 e3
  go_enter Try.func3, Try.ntmps3
  go_wp2_with (first | (go_at_call 8; refine (bytes8_yes (some x) n c _ hn2).mono ?_; rintro e w' ⟨rfl, rfl⟩) | (go_at_call 9; refine (ZZhex_any w.heap.size 0 n n z _ hn (by omega) (Nat.le_refl _) hz HC.out).mono ?_; rintro e w' ⟨rfl, rfl⟩; rw [HR.out, HO.out]))
  refine (hexDigit_any (z 0) _ (hz 0)).mono ?_
  rintro e w' ⟨rfl, rfl⟩
  rw [E0.out]
  go_wp2_with fail
  refine (hexDigit_any (z 1) _ (hz 1)).mono ?_
  rintro e w' ⟨rfl, rfl⟩
  rw [E1.out]
  go_wp2_with fail
  refine (hexDigit_any (z 2) _ (hz 2)).mono ?_
  rintro e w' ⟨rfl, rfl⟩
  rw [E2.out]
  go_wp2_with fail
  refine (hexDigit_any (z 3) _ (hz 3)).mono ?_
  rintro e w' ⟨rfl, rfl⟩
  rw [E3.out]
  go_wp2
  go_ret
  exact ⟨by simp, hb2⟩

set_option maxHeartbeats 1000000 in
theorem match_none0 (x : Addr) (n c : Nat) (z : Nat → Int) (w : World) (hn : 4 ≤ n) (hn2 : n ≤ 1048576)
    (e0 : Qb33.hv (z 0) = none)
    (hz : ∀ k, 0 ≤ z k ∧ z k ≤ 255) (hsrc : ∀ k, k < n → w.cell? (x.add k) = some (.int .u8 (z k))) :
    Calls Try.prog 3 #[.slice (some x) n c] w fun e w' => e = .returned (.bool true) ∧ Below w.heap.size w w' := by
  have h1 : ¬ (1048576 : Int) < (n : Int) := by omega
  have h4 : (4 : Int) ≤ (n : Int) := by omega
  have hmk := made_run n (by omega)
  have hne := fun w => run_neq_slice_nil_any (P := Try.prog) w 22 5 (some x) n c 0 0 Try.underlying22
  obtain ⟨w2, hcp, hc2, hb2⟩ := copied x n c z w hsrc
  have HC : Hid (∀ k, k < 4 → w2.cell? ⟨w.heap.size, 0 + k, none⟩ = some (.int .u8 (z k))) := fun k hk => by rw [Nat.zero_add]; exact hc2 k (by omega)
  have c0 := hc2 0 (by omega)
  have c1 := hc2 1 (by omega)
  have c2 := hc2 2 (by omega)
  have c3 := hc2 3 (by omega)
  clear hc2 hsrc
  have HF := Qb33.hexTo_none e0 4 (by omega)
  have HR : Hid (Qb33.hexR z = 0) := by show _ = _; simp [Qb33.hexR, HF]
  have HO : Hid (Qb33.hexOK z = false) := by show _ = _; simp [Qb33.hexOK, HF]
  clear HF
  have E0 : Hid (Qb33.hv (z 0) = none) := e0
  clear e0
  go_enter Try.func3, Try.ntmps3
  go_wp2_with (first | (go_at_call 8; refine (bytes8_yes (some x) n c _ hn2).mono ?_; rintro e w' ⟨rfl, rfl⟩) | (go_at_call 9; refine (ZZhex_any w.heap.size 0 n n z _ hn (by omega) (Nat.le_refl _) hz HC.out).mono ?_; rintro e w' ⟨rfl, rfl⟩; rw [HR.out, HO.out]))
  refine (hexDigit_any (z 0) _ (hz 0)).mono ?_
  rintro e w' ⟨rfl, rfl⟩
  rw [E0.out]
  go_wp2_with fail
  refine (hexDigit_any (z 1) _ (hz 1)).mono ?_
  rintro e w' ⟨rfl, rfl⟩
  generalize (Qb33.hv (z 1)).getD 0 = v1
  generalize (Qb33.hv (z 1)).isSome = o1
  go_wp2_with fail
  refine (hexDigit_any (z 2) _ (hz 2)).mono ?_
  rintro e w' ⟨rfl, rfl⟩
  generalize (Qb33.hv (z 2)).getD 0 = v2
  generalize (Qb33.hv (z 2)).isSome = o2
  go_wp2_with fail
  refine (hexDigit_any (z 3) _ (hz 3)).mono ?_
  rintro e w' ⟨rfl, rfl⟩
  generalize (Qb33.hv (z 3)).getD 0 = v3
  generalize (Qb33.hv (z 3)).isSome = o3
  go_wp2
  go_ret
  exact ⟨by simp, hb2⟩

set_option maxHeartbeats 1000000 in
theorem match_none1 (x : Addr) (n c : Nat) (z : Nat → Int) (w : World) (hn : 4 ≤ n) (hn2 : n ≤ 1048576) (d0 : Int)
    (e0 : Qb33.hv (z 0) = some d0) (e1 : Qb33.hv (z 1) = none)
    (hz : ∀ k, 0 ≤ z k ∧ z k ≤ 255) (hsrc : ∀ k, k < n → w.cell? (x.add k) = some (.int .u8 (z k))) :
    Calls Try.prog 3 #[.slice (some x) n c] w fun e w' => e = .returned (.bool true) ∧ Below w.heap.size w w' := by
  have h1 : ¬ (1048576 : Int) < (n : Int) := by omega
  have h4 : (4 : Int) ≤ (n : Int) := by omega
  have hmk := made_run n (by omega)
  have hne := fun w => run_neq_slice_nil_any (P := Try.prog) w 22 5 (some x) n c 0 0 Try.underlying22
  obtain ⟨w2, hcp, hc2, hb2⟩ := copied x n c z w hsrc
  have HC : Hid (∀ k, k < 4 → w2.cell? ⟨w.heap.size, 0 + k, none⟩ = some (.int .u8 (z k))) := fun k hk => by rw [Nat.zero_add]; exact hc2 k (by omega)
  have c0 := hc2 0 (by omega)
  have c1 := hc2 1 (by omega)
  have c2 := hc2 2 (by omega)
  have c3 := hc2 3 (by omega)
  clear hc2 hsrc
  have HF := Qb33.hexTo_none e1 4 (by omega)
  have HR : Hid (Qb33.hexR z = 0) := by show _ = _; simp [Qb33.hexR, HF]
  have HO : Hid (Qb33.hexOK z = false) := by show _ = _; simp [Qb33.hexOK, HF]
  clear HF
  have E0 : Hid (Qb33.hv (z 0) = some d0) := e0
  have E1 : Hid (Qb33.hv (z 1) = none) := e1
  clear e0 e1
  go_enter Try.func3, Try.ntmps3
  go_wp2_with (first | (go_at_call 8; refine (bytes8_yes (some x) n c _ hn2).mono ?_; rintro e w' ⟨rfl, rfl⟩) | (go_at_call 9; refine (ZZhex_any w.heap.size 0 n n z _ hn (by omega) (Nat.le_refl _) hz HC.out).mono ?_; rintro e w' ⟨rfl, rfl⟩; rw [HR.out, HO.out]))
  refine (hexDigit_any (z 0) _ (hz 0)).mono ?_
  rintro e w' ⟨rfl, rfl⟩
  rw [E0.out]
  go_wp2_with fail
  refine (hexDigit_any (z 1) _ (hz 1)).mono ?_
  rintro e w' ⟨rfl, rfl⟩
  rw [E1.out]
  go_wp2_with fail
  refine (hexDigit_any (z 2) _ (hz 2)).mono ?_
  rintro e w' ⟨rfl, rfl⟩
  generalize (Qb33.hv (z 2)).getD 0 = v2
  generalize (Qb33.hv (z 2)).isSome = o2
  go_wp2_with fail
  refine (hexDigit_any (z 3) _ (hz 3)).mono ?_
  rintro e w' ⟨rfl, rfl⟩
  generalize (Qb33.hv (z 3)).getD 0 = v3
  generalize (Qb33.hv (z 3)).isSome = o3
  go_wp2
  go_ret
  exact ⟨by simp, hb2⟩

set_option maxHeartbeats 1000000 in
theorem match_none2 (x : Addr) (n c : Nat) (z : Nat → Int) (w : World) (hn : 4 ≤ n) (hn2 : n ≤ 1048576) (d0 d1 : Int)
    (e0 : Qb33.hv (z 0) = some d0) (e1 : Qb33.hv (z 1) = some d1) (e2 : Qb33.hv (z 2) = none)
    (hz : ∀ k, 0 ≤ z k ∧ z k ≤ 255) (hsrc : ∀ k, k < n → w.cell? (x.add k) = some (.int .u8 (z k))) :
    Calls Try.prog 3 #[.slice (some x) n c] w fun e w' => e = .returned (.bool true) ∧ Below w.heap.size w w' := by
  have h1 : ¬ (1048576 : Int) < (n : Int) := by omega
  have h4 : (4 : Int) ≤ (n : Int) := by omega
  have hmk := made_run n (by omega)
  have hne := fun w => run_neq_slice_nil_any (P := Try.prog) w 22 5 (some x) n c 0 0 Try.underlying22
  obtain ⟨w2, hcp, hc2, hb2⟩ := copied x n c z w hsrc
  have HC : Hid (∀ k, k < 4 → w2.cell? ⟨w.heap.size, 0 + k, none⟩ = some (.int .u8 (z k))) := fun k hk => by rw [Nat.zero_add]; exact hc2 k (by omega)
  have c0 := hc2 0 (by omega)
  have c1 := hc2 1 (by omega)
  have c2 := hc2 2 (by omega)
  have c3 := hc2 3 (by omega)
  clear hc2 hsrc
  have HF := Qb33.hexTo_none e2 4 (by omega)
  have HR : Hid (Qb33.hexR z = 0) := by show _ = _; simp [Qb33.hexR, HF]
  have HO : Hid (Qb33.hexOK z = false) := by show _ = _; simp [Qb33.hexOK, HF]
  clear HF
  have E0 : Hid (Qb33.hv (z 0) = some d0) := e0
  have E1 : Hid (Qb33.hv (z 1) = some d1) := e1
  have E2 : Hid (Qb33.hv (z 2) = none) := e2
  clear e0 e1 e2
  go_enter Try.func3, Try.ntmps3
  go_wp2_with (first | (go_at_call 8; refine (bytes8_yes (some x) n c _ hn2).mono ?_; rintro e w' ⟨rfl, rfl⟩) | (go_at_call 9; refine (ZZhex_any w.heap.size 0 n n z _ hn (by omega) (Nat.le_refl _) hz HC.out).mono ?_; rintro e w' ⟨rfl, rfl⟩; rw [HR.out, HO.out]))
  refine (hexDigit_any (z 0) _ (hz 0)).mono ?_
  rintro e w' ⟨rfl, rfl⟩
  rw [E0.out]
  go_wp2_with fail
  refine (hexDigit_any (z 1) _ (hz 1)).mono ?_
  rintro e w' ⟨rfl, rfl⟩
  rw [E1.out]
  go_wp2_with fail
  refine (hexDigit_any (z 2) _ (hz 2)).mono ?_
  rintro e w' ⟨rfl, rfl⟩
  rw [E2.out]
  go_wp2_with fail
  refine (hexDigit_any (z 3) _ (hz 3)).mono ?_
  rintro e w' ⟨rfl, rfl⟩
  generalize (Qb33.hv (z 3)).getD 0 = v3
  generalize (Qb33.hv (z 3)).isSome = o3
  go_wp2
  go_ret
  exact ⟨by simp, hb2⟩

set_option maxHeartbeats 1000000 in
theorem match_none3 (x : Addr) (n c : Nat) (z : Nat → Int) (w : World) (hn : 4 ≤ n) (hn2 : n ≤ 1048576) (d0 d1 d2 : Int)
    (e0 : Qb33.hv (z 0) = some d0) (e1 : Qb33.hv (z 1) = some d1) (e2 : Qb33.hv (z 2) = some d2) (e3 : Qb33.hv (z 3) = none)
    (hz : ∀ k, 0 ≤ z k ∧ z k ≤ 255) (hsrc : ∀ k, k < n → w.cell? (x.add k) = some (.int .u8 (z k))) :
    Calls Try.prog 3 #[.slice (some x) n c] w fun e w' => e = .returned (.bool true) ∧ Below w.heap.size w w' := by
  have h1 : ¬ (1048576 : Int) < (n : Int) := by omega
  have h4 : (4 : Int) ≤ (n : Int) := by omega
  have hmk := made_run n (by omega)
  have hne := fun w => run_neq_slice_nil_any (P := Try.prog) w 22 5 (some x) n c 0 0 Try.underlying22
  obtain ⟨w2, hcp, hc2, hb2⟩ := copied x n c z w hsrc
  have HC : Hid (∀ k, k < 4 → w2.cell? ⟨w.heap.size, 0 + k, none⟩ = some (.int .u8 (z k))) := fun k hk => by rw [Nat.zero_add]; exact hc2 k (by omega)
  have c0 := hc2 0 (by omega)
  have c1 := hc2 1 (by omega)
  have c2 := hc2 2 (by omega)
  have c3 := hc2 3 (by omega)
  clear hc2 hsrc
  have HF := Qb33.hexTo_none e3 4 (by omega)
  have HR : Hid (Qb33.hexR z = 0) := by show _ = _; simp [Qb33.hexR, HF]
  have HO : Hid (Qb33.hexOK z = false) := by show _ = _; simp [Qb33.hexOK, HF]
  clear HF
  have E0 : Hid (Qb33.hv (z 0) = some d0) := e0
  have E1 : Hid (Qb33.hv (z 1) = some d1) := e1
  have E2 : Hid (Qb33.hv (z 2) = some d2) := e2
  have E3 : Hid (Qb33.hv (z 3) = none) := e3
  clear e0 e1 e2 e3
  go_enter Try.func3, Try.ntmps3
  go_wp2_with (first | (go_at_call 8; refine (bytes8_yes (some x) n c _ hn2).mono ?_; rintro e w' ⟨rfl, rfl⟩) | (go_at_call 9; refine (ZZhex_any w.heap.size 0 n n z _ hn (by omega) (Nat.le_refl _) hz HC.out).mono ?_; rintro e w' ⟨rfl, rfl⟩; rw [HR.out, HO.out]))
  refine (hexDigit_any (z 0) _ (hz 0)).mono ?_
  rintro e w' ⟨rfl, rfl⟩
  rw [E0.out]
  go_wp2_with fail
  refine (hexDigit_any (z 1) _ (hz 1)).mono ?_
  rintro e w' ⟨rfl, rfl⟩
  rw [E1.out]
  go_wp2_with fail
  refine (hexDigit_any (z 2) _ (hz 2)).mono ?_
  rintro e w' ⟨rfl, rfl⟩
  rw [E2.out]
  go_wp2_with fail
  refine (hexDigit_any (z 3) _ (hz 3)).mono ?_
  rintro e w' ⟨rfl, rfl⟩
  rw [E3.out]
  go_wp2
  go_ret
  exact ⟨by simp, hb2⟩

theorem match_any (x : Addr) (n c : Nat) (z : Nat → Int) (w : World) (hn : 4 ≤ n) (hn2 : n ≤ 1048576)
    (hz : ∀ k, 0 ≤ z k ∧ z k ≤ 255) (hsrc : ∀ k, k < n → w.cell? (x.add k) = some (.int .u8 (z k))) :
    Calls Try.prog 3 #[.slice (some x) n c] w fun e w' => e = .returned (.bool true) ∧ Below w.heap.size w w' := by
  cases e0 : Qb33.hv (z 0) with
  | none => exact match_none0 x n c z w hn hn2 e0 hz hsrc
  | some d0 =>
    cases e1 : Qb33.hv (z 1) with
    | none => exact match_none1 x n c z w hn hn2 d0 e0 e1 hz hsrc
    | some d1 =>
      cases e2 : Qb33.hv (z 2) with
      | none => exact match_none2 x n c z w hn hn2 d0 d1 e0 e1 e2 hz hsrc
      | some d2 =>
        cases e3 : Qb33.hv (z 3) with
        | none => exact match_none3 x n c z w hn hn2 d0 d1 d2 e0 e1 e2 e3 hz hsrc
        | some d3 => exact match_all x n c z w hn hn2 d0 d1 d2 d3 e0 e1 e2 e3 hz hsrc

end Go.Proofs.Qxb6604033a
