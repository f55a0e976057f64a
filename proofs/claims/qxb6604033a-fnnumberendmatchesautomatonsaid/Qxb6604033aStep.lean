/-
  THE WALKS OF numStep (13) and numAccepting (14).
-/
import Derived.Test.Qxb6604033aRows
import Derived.Test.Qxb6604033aAuto
import Derived.WalkKit
import Derived.WalkSpells
import Derived.WalkLawsBesides
namespace Go.Proofs.Qxb6604033a
open Go.RowKit
set_option linter.unusedVariables false

theorem ret_step {a b : Int} (h : a = b) : Ending.returned (.int .i64 a) = .returned (.int .i64 b) := by rw [h]

set_option maxHeartbeats 400000 in
theorem numStep_0 (c : Int) (w : World) (hc : 0 ≤ c ∧ c ≤ 255) :
    Calls Try.prog 13 #[.int .i64 0, .int .u8 c] w fun e w' => e = .returned (.int .i64 (Qb33.res (Qb33.step 0 c))) ∧ w = w' := by
  go_enter Try.func13, Try.ntmps13
  go_wp2
  all_goals
    go_ret
    refine ⟨ret_step ?_, rfl⟩
    try simp only [beq_iff_eq, beq_eq_false_iff_ne, ne_eq] at *
    simp only [Qb33.step]
    repeat' split
    all_goals first | rfl | (exfalso; omega) | (exfalso; simp at *)

set_option maxHeartbeats 400000 in
theorem numStep_1 (c : Int) (w : World) (hc : 0 ≤ c ∧ c ≤ 255) :
    Calls Try.prog 13 #[.int .i64 1, .int .u8 c] w fun e w' => e = .returned (.int .i64 (Qb33.res (Qb33.step 1 c))) ∧ w = w' := by
  go_enter Try.func13, Try.ntmps13
  go_wp2
  all_goals
    go_ret
    refine ⟨ret_step ?_, rfl⟩
    try simp only [beq_iff_eq, beq_eq_false_iff_ne, ne_eq] at *
    simp only [Qb33.step]
    repeat' split
    all_goals first | rfl | (exfalso; omega) | (exfalso; simp at *)

set_option maxHeartbeats 400000 in
theorem numStep_2 (c : Int) (w : World) (hc : 0 ≤ c ∧ c ≤ 255) :
    Calls Try.prog 13 #[.int .i64 2, .int .u8 c] w fun e w' => e = .returned (.int .i64 (Qb33.res (Qb33.step 2 c))) ∧ w = w' := by
  go_enter Try.func13, Try.ntmps13
  go_wp2
  all_goals
    go_ret
    refine ⟨ret_step ?_, rfl⟩
    try simp only [beq_iff_eq, beq_eq_false_iff_ne, ne_eq] at *
    simp only [Qb33.step]
    repeat' split
    all_goals first | rfl | (exfalso; omega) | (exfalso; simp at *)

set_option maxHeartbeats 400000 in
theorem numStep_3 (c : Int) (w : World) (hc : 0 ≤ c ∧ c ≤ 255) :
    Calls Try.prog 13 #[.int .i64 3, .int .u8 c] w fun e w' => e = .returned (.int .i64 (Qb33.res (Qb33.step 3 c))) ∧ w = w' := by
  go_enter Try.func13, Try.ntmps13
  go_wp2
  all_goals
    go_ret
    refine ⟨ret_step ?_, rfl⟩
    try simp only [beq_iff_eq, beq_eq_false_iff_ne, ne_eq] at *
    simp only [Qb33.step]
    repeat' split
    all_goals first | rfl | (exfalso; omega) | (exfalso; simp at *)

set_option maxHeartbeats 400000 in
theorem numStep_4 (c : Int) (w : World) (hc : 0 ≤ c ∧ c ≤ 255) :
    Calls Try.prog 13 #[.int .i64 4, .int .u8 c] w fun e w' => e = .returned (.int .i64 (Qb33.res (Qb33.step 4 c))) ∧ w = w' := by
  go_enter Try.func13, Try.ntmps13
  go_wp2
  all_goals
    go_ret
    refine ⟨ret_step ?_, rfl⟩
    try simp only [beq_iff_eq, beq_eq_false_iff_ne, ne_eq] at *
    simp only [Qb33.step]
    repeat' split
    all_goals first | rfl | (exfalso; omega) | (exfalso; simp at *)

set_option maxHeartbeats 400000 in
theorem numStep_5 (c : Int) (w : World) (hc : 0 ≤ c ∧ c ≤ 255) :
    Calls Try.prog 13 #[.int .i64 5, .int .u8 c] w fun e w' => e = .returned (.int .i64 (Qb33.res (Qb33.step 5 c))) ∧ w = w' := by
  go_enter Try.func13, Try.ntmps13
  go_wp2
  all_goals
    go_ret
    refine ⟨ret_step ?_, rfl⟩
    try simp only [beq_iff_eq, beq_eq_false_iff_ne, ne_eq] at *
    simp only [Qb33.step]
    repeat' split
    all_goals first | rfl | (exfalso; omega) | (exfalso; simp at *)

set_option maxHeartbeats 400000 in
theorem numStep_6 (c : Int) (w : World) (hc : 0 ≤ c ∧ c ≤ 255) :
    Calls Try.prog 13 #[.int .i64 6, .int .u8 c] w fun e w' => e = .returned (.int .i64 (Qb33.res (Qb33.step 6 c))) ∧ w = w' := by
  go_enter Try.func13, Try.ntmps13
  go_wp2
  all_goals
    go_ret
    refine ⟨ret_step ?_, rfl⟩
    try simp only [beq_iff_eq, beq_eq_false_iff_ne, ne_eq] at *
    simp only [Qb33.step]
    repeat' split
    all_goals first | rfl | (exfalso; omega) | (exfalso; simp at *)

set_option maxHeartbeats 400000 in
theorem numStep_7 (c : Int) (w : World) (hc : 0 ≤ c ∧ c ≤ 255) :
    Calls Try.prog 13 #[.int .i64 7, .int .u8 c] w fun e w' => e = .returned (.int .i64 (Qb33.res (Qb33.step 7 c))) ∧ w = w' := by
  go_enter Try.func13, Try.ntmps13
  go_wp2
  all_goals
    go_ret
    refine ⟨ret_step ?_, rfl⟩
    try simp only [beq_iff_eq, beq_eq_false_iff_ne, ne_eq] at *
    simp only [Qb33.step]
    repeat' split
    all_goals first | rfl | (exfalso; omega) | (exfalso; simp at *)

set_option maxHeartbeats 400000 in
theorem numStep_8 (c : Int) (w : World) (hc : 0 ≤ c ∧ c ≤ 255) :
    Calls Try.prog 13 #[.int .i64 8, .int .u8 c] w fun e w' => e = .returned (.int .i64 (Qb33.res (Qb33.step 8 c))) ∧ w = w' := by
  go_enter Try.func13, Try.ntmps13
  go_wp2
  all_goals
    go_ret
    refine ⟨ret_step ?_, rfl⟩
    try simp only [beq_iff_eq, beq_eq_false_iff_ne, ne_eq] at *
    simp only [Qb33.step]
    repeat' split
    all_goals first | rfl | (exfalso; omega) | (exfalso; simp at *)

theorem numStep_any (s : Nat) (hs : s ≤ 8) (c : Int) (w : World) (hc : 0 ≤ c ∧ c ≤ 255) :
    Calls Try.prog 13 #[.int .i64 s, .int .u8 c] w fun e w' => e = .returned (.int .i64 (Qb33.res (Qb33.step s c))) ∧ w = w' := by
  match s, hs with
  | 0, _ => exact numStep_0 c w hc
  | 1, _ => exact numStep_1 c w hc
  | 2, _ => exact numStep_2 c w hc
  | 3, _ => exact numStep_3 c w hc
  | 4, _ => exact numStep_4 c w hc
  | 5, _ => exact numStep_5 c w hc
  | 6, _ => exact numStep_6 c w hc
  | 7, _ => exact numStep_7 c w hc
  | 8, _ => exact numStep_8 c w hc

theorem accepting_0 (w : World) : Calls Try.prog 14 #[.int .i64 0] w fun e w' => e = .returned (.bool (Qb33.acc 0)) ∧ w = w' := by
  go_enter Try.func14, Try.ntmps14
  go_wp2
  go_ret
  exact ⟨rfl, rfl⟩
theorem accepting_1 (w : World) : Calls Try.prog 14 #[.int .i64 1] w fun e w' => e = .returned (.bool (Qb33.acc 1)) ∧ w = w' := by
  go_enter Try.func14, Try.ntmps14
  go_wp2
  go_ret
  exact ⟨rfl, rfl⟩
theorem accepting_2 (w : World) : Calls Try.prog 14 #[.int .i64 2] w fun e w' => e = .returned (.bool (Qb33.acc 2)) ∧ w = w' := by
  go_enter Try.func14, Try.ntmps14
  go_wp2
  go_ret
  exact ⟨rfl, rfl⟩
theorem accepting_3 (w : World) : Calls Try.prog 14 #[.int .i64 3] w fun e w' => e = .returned (.bool (Qb33.acc 3)) ∧ w = w' := by
  go_enter Try.func14, Try.ntmps14
  go_wp2
  go_ret
  exact ⟨rfl, rfl⟩
theorem accepting_4 (w : World) : Calls Try.prog 14 #[.int .i64 4] w fun e w' => e = .returned (.bool (Qb33.acc 4)) ∧ w = w' := by
  go_enter Try.func14, Try.ntmps14
  go_wp2
  go_ret
  exact ⟨rfl, rfl⟩
theorem accepting_5 (w : World) : Calls Try.prog 14 #[.int .i64 5] w fun e w' => e = .returned (.bool (Qb33.acc 5)) ∧ w = w' := by
  go_enter Try.func14, Try.ntmps14
  go_wp2
  go_ret
  exact ⟨rfl, rfl⟩
theorem accepting_6 (w : World) : Calls Try.prog 14 #[.int .i64 6] w fun e w' => e = .returned (.bool (Qb33.acc 6)) ∧ w = w' := by
  go_enter Try.func14, Try.ntmps14
  go_wp2
  go_ret
  exact ⟨rfl, rfl⟩
theorem accepting_7 (w : World) : Calls Try.prog 14 #[.int .i64 7] w fun e w' => e = .returned (.bool (Qb33.acc 7)) ∧ w = w' := by
  go_enter Try.func14, Try.ntmps14
  go_wp2
  go_ret
  exact ⟨rfl, rfl⟩
theorem accepting_8 (w : World) : Calls Try.prog 14 #[.int .i64 8] w fun e w' => e = .returned (.bool (Qb33.acc 8)) ∧ w = w' := by
  go_enter Try.func14, Try.ntmps14
  go_wp2
  go_ret
  exact ⟨rfl, rfl⟩

theorem accepting_any (s : Nat) (hs : s ≤ 8) (w : World) : Calls Try.prog 14 #[.int .i64 s] w fun e w' => e = .returned (.bool (Qb33.acc s)) ∧ w = w' := by
  match s, hs with
  | 0, _ => exact accepting_0 w
  | 1, _ => exact accepting_1 w
  | 2, _ => exact accepting_2 w
  | 3, _ => exact accepting_3 w
  | 4, _ => exact accepting_4 w
  | 5, _ => exact accepting_5 w
  | 6, _ => exact accepting_6 w
  | 7, _ => exact accepting_7 w
  | 8, _ => exact accepting_8 w

end Go.Proofs.Qxb6604033a
