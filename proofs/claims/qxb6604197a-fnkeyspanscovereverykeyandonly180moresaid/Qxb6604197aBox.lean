/-
  THE WALK OF ZZBoxKeySpans (10): what it hands back, in three ways.
-/
import Derived.Test.Qxb6604197aSpans
import Derived.BigQuiet
import Derived.Deep.QuietTactic
namespace Go.Proofs.Qxb6604197a
open Go.RowKit
attribute [local go_sem] run_store_float

theorem mk4 (w : World) : (Instr.makeSlice 31 (.int .i64 0) (.int .i64 4)).run Try.prog w = .ok (.slice (some ⟨w.heap.size, 0, none⟩) 0 4) (w.alloc (.cells #[F 0, F 0, F 0, F 0] 22)) := by kernel_rfl
theorem mk2 (w : World) : (Instr.makeSlice 31 (.int .i64 0) (.int .i64 2)).run Try.prog w = .ok (.slice (some ⟨w.heap.size, 0, none⟩) 0 2) (w.alloc (.cells #[F 0, F 0] 22)) := by kernel_rfl

/-- Four numbers come back. -/
def Four (so no a b c d : Nat) (w : World) (e : Ending) (w' : World) : Prop :=
  e = .returned (.tuple #[F so, F no, .slice (some ⟨w.heap.size + 4, 0, none⟩) 4 4]) ∧
    w'.cell? ⟨w.heap.size + 4, 0, none⟩ = some (F a) ∧ w'.cell? ⟨w.heap.size + 4, 1, none⟩ = some (F b) ∧ w'.cell? ⟨w.heap.size + 4, 2, none⟩ = some (F c) ∧ w'.cell? ⟨w.heap.size + 4, 3, none⟩ = some (F d) ∧ Below w.heap.size w w'
/-- Two numbers come back. -/
def Two (so no a b : Nat) (w : World) (e : Ending) (w' : World) : Prop :=
  e = .returned (.tuple #[F so, F no, .slice (some ⟨w.heap.size + 4, 0, none⟩) 2 2]) ∧
    w'.cell? ⟨w.heap.size + 4, 0, none⟩ = some (F a) ∧ w'.cell? ⟨w.heap.size + 4, 1, none⟩ = some (F b) ∧ Below w.heap.size w w'

set_option maxHeartbeats 400000 in
theorem box_cross (so we no ea : Nat) (w : World) (h : FloatKind.f64.format.order we ea = some .gt) :
    Calls Try.prog 10 #[F so, F we, F no, F ea] w (Four so no we c180 m180 ea w) := by
  have HH : Hid (FloatKind.f64.format.order we ea = some .gt) := h
  clear h
  have hmk := mk4
  go_enter Try.func10, Try.ntmps10
  go_wp2_with (go_at_call 15; refine (spans_cross so we no ea _ HH.out).mono ?_; rintro e w' ⟨rfl, rfl⟩)
  refine wp_loop_rounds 3 ?_
  rw [rounds_succ]
  go_wp2
  rw [rounds_succ]
  go_wp2
  rw [rounds_succ]
  go_wp2
  go_quiet (fail)
  go_wp2
  go_ret3
  refine ⟨rfl, ?_, ?_, ?_, ?_, ?_⟩
  · go_simp
  · go_simp
  · go_simp
  · go_simp
  · refine below_drewN ?_ _
    repeat (first | exact Below.refl _ _ | refine Below.drew ?_ | refine Below.alloc ?_ (by simp; try omega) _)

set_option maxHeartbeats 400000 in
theorem box_reach (so we no ea : Nat) (w : World) (o : Ordering) (h : FloatKind.f64.format.order we ea = some o) (ho : (o == .gt) = false) (h2 : FloatKind.f64.format.order ea c180 = some .eq) (h3 : FloatKind.f64.format.order we m180 = some .gt) :
    Calls Try.prog 10 #[F so, F we, F no, F ea] w (Four so no we c180 m180 m180 w) := by
  have HH : Hid (FloatKind.f64.format.order we ea = some o) := h
  have H2 : Hid (FloatKind.f64.format.order ea c180 = some .eq) := h2
  have H3 : Hid (FloatKind.f64.format.order we m180 = some .gt) := h3
  clear h h2 h3
  have hmk := mk4
  go_enter Try.func10, Try.ntmps10
  go_wp2_with (go_at_call 15; refine (spans_reach so we no ea _ o HH.out ho H2.out H3.out).mono ?_; rintro e w' ⟨rfl, rfl⟩)
  refine wp_loop_rounds 3 ?_
  rw [rounds_succ]
  go_wp2
  rw [rounds_succ]
  go_wp2
  rw [rounds_succ]
  go_wp2
  go_quiet (fail)
  go_wp2
  go_ret3
  refine ⟨rfl, ?_, ?_, ?_, ?_, ?_⟩
  · go_simp
  · go_simp
  · go_simp
  · go_simp
  · refine below_drewN ?_ _
    repeat (first | exact Below.refl _ _ | refine Below.drew ?_ | refine Below.alloc ?_ (by simp; try omega) _)

set_option maxHeartbeats 400000 in
theorem box_one (so we no ea : Nat) (w : World) (o o2 : Ordering) (h : FloatKind.f64.format.order we ea = some o) (ho : (o == .gt) = false) (h2 : FloatKind.f64.format.order ea c180 = some o2) (ho2 : (o2 == .eq) = false) :
    Calls Try.prog 10 #[F so, F we, F no, F ea] w (Two so no we ea w) := by
  have HH : Hid (FloatKind.f64.format.order we ea = some o) := h
  have H2 : Hid (FloatKind.f64.format.order ea c180 = some o2) := h2
  clear h h2
  have hmk := mk2
  go_enter Try.func10, Try.ntmps10
  go_wp2_with (go_at_call 15; refine (spans_one so we no ea _ o o2 HH.out ho H2.out ho2).mono ?_; rintro e w' ⟨rfl, rfl⟩)
  refine wp_loop_rounds 2 ?_
  rw [rounds_succ]
  go_wp2
  rw [rounds_succ]
  go_wp2
  go_quiet (fail)
  go_wp2
  go_ret3
  refine ⟨rfl, ?_, ?_, ?_⟩
  · go_simp
  · go_simp
  · refine below_drewN ?_ _
    repeat (first | exact Below.refl _ _ | refine Below.drew ?_ | refine Below.alloc ?_ (by simp; try omega) _)

set_option maxHeartbeats 400000 in
theorem box_all (so we no ea : Nat) (w : World) (o o3 : Ordering) (h : FloatKind.f64.format.order we ea = some o) (ho : (o == .gt) = false) (h2 : FloatKind.f64.format.order ea c180 = some .eq) (h3 : FloatKind.f64.format.order we m180 = some o3) (ho3 : (o3 == .gt) = false) :
    Calls Try.prog 10 #[F so, F we, F no, F ea] w (Two so no we ea w) := by
  have HH : Hid (FloatKind.f64.format.order we ea = some o) := h
  have H2 : Hid (FloatKind.f64.format.order ea c180 = some .eq) := h2
  have H3 : Hid (FloatKind.f64.format.order we m180 = some o3) := h3
  clear h h2 h3
  have hmk := mk2
  go_enter Try.func10, Try.ntmps10
  go_wp2_with (go_at_call 15; refine (spans_all so we no ea _ o o3 HH.out ho H2.out H3.out ho3).mono ?_; rintro e w' ⟨rfl, rfl⟩)
  refine wp_loop_rounds 2 ?_
  rw [rounds_succ]
  go_wp2
  rw [rounds_succ]
  go_wp2
  go_quiet (fail)
  go_wp2
  go_ret3
  refine ⟨rfl, ?_, ?_, ?_⟩
  · go_simp
  · go_simp
  · refine below_drewN ?_ _
    repeat (first | exact Below.refl _ _ | refine Below.drew ?_ | refine Below.alloc ?_ (by simp; try omega) _)

end Go.Proofs.Qxb6604197a
