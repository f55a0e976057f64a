/-
  THE WALK OF (Box).keySpans (15): three ways.
-/
import Derived.Test.Qxb6604197aBase
import Derived.RegionTactic
namespace Go.Proofs.Qxb6604197a
open Go.RowKit
attribute [local go_sem] run_store_float

abbrev F (x : Nat) : Value := .float .f64 x
/-- 180 and -180 as words. -/
abbrev c180 : Nat := 4640537203540230144
abbrev m180 : Nat := 13863909240395005952

/-- The world behind 'keySpans': the box's copy, the latitude span, the longitude spans 'ls'. -/
abbrev spansW (so we no ea : Nat) (ls : Array Value) (w : World) : World :=
  (((w.alloc (.cells #[F so, F we, F no, F ea] 46)).alloc (.cells #[F so, F no] 38)).alloc (.cells ls 38)).drew

set_option maxHeartbeats 400000 in
theorem spans_cross (so we no ea : Nat) (w : World) (h : FloatKind.f64.format.order we ea = some .gt) :
    Calls Try.prog 15 #[.agg #[F so, F we, F no, F ea]] w fun e w' => e = .returned (.tuple #[.agg #[F so, F no], .slice (some ⟨w.heap.size + 2, 0, none⟩) 2 2]) ∧ w' = spansW so we no ea #[F we, F c180, F m180, F ea] w := by
  go_enter Try.func15, Try.ntmps15
  go_wp2
  go_region
  all_goals
    go_wp2
    exact bodyPost_ret (v := .tuple #[.agg #[F so, F no], .slice (some ⟨w.heap.size + 2, 0, none⟩) 2 2]) (by simp [results, Try.results15, go_sem]) rfl ⟨rfl, rfl⟩

set_option maxHeartbeats 400000 in
theorem spans_reach (so we no ea : Nat) (w : World) (o : Ordering) (h : FloatKind.f64.format.order we ea = some o) (ho : (o == .gt) = false)
    (h2 : FloatKind.f64.format.order ea c180 = some .eq) (h3 : FloatKind.f64.format.order we m180 = some .gt) :
    Calls Try.prog 15 #[.agg #[F so, F we, F no, F ea]] w fun e w' => e = .returned (.tuple #[.agg #[F so, F no], .slice (some ⟨w.heap.size + 2, 0, none⟩) 2 2]) ∧ w' = spansW so we no ea #[F we, F c180, F m180, F m180] w := by
  go_enter Try.func15, Try.ntmps15
  go_wp2
  go_region
  all_goals
    go_wp2
    exact bodyPost_ret (v := .tuple #[.agg #[F so, F no], .slice (some ⟨w.heap.size + 2, 0, none⟩) 2 2]) (by simp [results, Try.results15, go_sem]) rfl ⟨rfl, rfl⟩

set_option maxHeartbeats 400000 in
theorem spans_one (so we no ea : Nat) (w : World) (o o2 : Ordering) (h : FloatKind.f64.format.order we ea = some o) (ho : (o == .gt) = false)
    (h2 : FloatKind.f64.format.order ea c180 = some o2) (ho2 : (o2 == .eq) = false) :
    Calls Try.prog 15 #[.agg #[F so, F we, F no, F ea]] w fun e w' => e = .returned (.tuple #[.agg #[F so, F no], .slice (some ⟨w.heap.size + 2, 0, none⟩) 1 1]) ∧ w' = spansW so we no ea #[F we, F ea] w := by
  go_enter Try.func15, Try.ntmps15
  go_wp2
  go_region
  all_goals
    go_wp2
    exact bodyPost_ret (v := .tuple #[.agg #[F so, F no], .slice (some ⟨w.heap.size + 2, 0, none⟩) 1 1]) (by simp [results, Try.results15, go_sem]) rfl ⟨rfl, rfl⟩

set_option maxHeartbeats 400000 in
theorem spans_all (so we no ea : Nat) (w : World) (o o3 : Ordering) (h : FloatKind.f64.format.order we ea = some o) (ho : (o == .gt) = false)
    (h2 : FloatKind.f64.format.order ea c180 = some .eq) (h3 : FloatKind.f64.format.order we m180 = some o3) (ho3 : (o3 == .gt) = false) :
    Calls Try.prog 15 #[.agg #[F so, F we, F no, F ea]] w fun e w' => e = .returned (.tuple #[.agg #[F so, F no], .slice (some ⟨w.heap.size + 2, 0, none⟩) 1 1]) ∧ w' = spansW so we no ea #[F we, F ea] w := by
  go_enter Try.func15, Try.ntmps15
  go_wp2
  go_region
  all_goals
    go_wp2
    exact bodyPost_ret (v := .tuple #[.agg #[F so, F no], .slice (some ⟨w.heap.size + 2, 0, none⟩) 1 1]) (by simp [results, Try.results15, go_sem]) rfl ⟨rfl, rfl⟩

end Go.Proofs.Qxb6604197a
