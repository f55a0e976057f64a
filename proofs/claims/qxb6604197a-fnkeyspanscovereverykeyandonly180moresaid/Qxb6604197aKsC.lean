/-
  THE WALK OF FnKeySpansCoverEveryKeyAndOnly180More (5), it ends short of 180.
-/
import Derived.Test.Qxb6604197aKs
import Derived.Test.Qxb6604197aInBox
namespace Go.Proofs.Qxb6604197a
open Go.RowKit
attribute [local go_sem] run_store_float

set_option maxHeartbeats 8000000 in
set_option maxRecDepth 100000 in
theorem ks_C (so we no ea x : Nat) (w : World) (K W E : Int) (hK : 0 < K) (k1 : Fl.key c180 = some K) (k2 : Fl.key m180 = some (-K)) (kw : Fl.key we = some W) (ke : Fl.key ea = some E)
    (hW : -K ≤ W) (hWE : W ≤ E) (hE : E < K) :
    Calls Try.prog 5 #[F so, F we, F no, F ea, F x] w fun e w' => e = .returned (.bool true) ∧ Below w.heap.size w w' := by
  have HC : Hid (inB we ea c180 = false) := by
    show _ = _
    rw [inB_key kw ke k1 k1 k2]
    exact decide_eq_false (by omega)
  have HG : Hid (FloatKind.f64.format.order we ea = some (compare W E)) := Fl.ord kw ke
  have HN : Hid ((compare W E == .gt) = false) := cmp_ngt hWE
  have H2 : Hid (FloatKind.f64.format.order ea c180 = some .lt) := Fl.ord_lt ke k1 hE
  have HK : Hid (Fl.key c180 = some K ∧ Fl.key m180 = some (-K) ∧ Fl.key we = some W ∧ Fl.key ea = some E) := ⟨k1, k2, kw, ke⟩
  have f1 : (FloatKind.f64.format.order we m180 == some .gt || FloatKind.f64.format.order we m180 == some .eq) = true := (geF_key kw k2).trans (decide_eq_true (by omega))
  have f2 : (FloatKind.f64.format.order we c180 == some .lt || FloatKind.f64.format.order we c180 == some .eq) = true := (leF_key kw k1).trans (decide_eq_true (by omega))
  have f3 : (FloatKind.f64.format.order m180 we == some .lt || FloatKind.f64.format.order m180 we == some .eq) = true := (leF_key k2 kw).trans (decide_eq_true (by omega))
  have f4 : (FloatKind.f64.format.order ea m180 == some .gt || FloatKind.f64.format.order ea m180 == some .eq) = true := (geF_key ke k2).trans (decide_eq_true (by omega))
  have f5 : (FloatKind.f64.format.order ea c180 == some .lt || FloatKind.f64.format.order ea c180 == some .eq) = true := (leF_key ke k1).trans (decide_eq_true (by omega))
  have f6 : (FloatKind.f64.format.order we ea == some .lt || FloatKind.f64.format.order we ea == some .eq) = true := (leF_key kw ke).trans (decide_eq_true (by omega))
  clear kw ke k1 k2
  go_enter Try.func5, Try.ntmps5
  go_wp2_with (first | (go_at_call 10; refine (box_one so we no ea _ _ _ HG.out HN.out H2.out rfl).mono ?_; rintro e w' ⟨rfl, c0, c1, hb⟩))
  refine (same_self so _).mono ?_
  rintro e w' ⟨rfl, rfl⟩
  go_wp2_with fail
  refine (same_self no _).mono ?_
  rintro e w' ⟨rfl, rfl⟩
  go_wp2_with fail
  refine wp_loop_rounds 2 ?_
  rw [rounds_succ]
  go_wp2
  go_quiet (fail)
  go_wp2
  rw [rounds_succ]
  go_wp2_with fail
  refine (same_self we _).mono ?_
  rintro e w3 ⟨rfl, rfl⟩
  go_upto_region 20 with (go_at_call 12; refine (inBox_any _ _ _ _).mono ?_; rintro e w' ⟨rfl, rfl⟩; rw [HC.out])
  go_cut [16] from 19 (fun t wc => t = .bool false ∧ wc.cell? ⟨w.heap.size + 4, 0, none⟩ = some (F we) ∧ wc.cell? ⟨w.heap.size + 4, 1, none⟩ = some (F ea) ∧ Below w.heap.size w wc)
  case first =>
    go_wp2
    go_meet
    case rel => exact ⟨rfl, by go_simp, by go_simp, by repeat (first | exact hb | refine below_drewN ?_ _ | refine Below.drew ?_)⟩
  case rest =>
    clear f1 f2 f3 f4 f5 f6 c0 c1 hb
    obtain ⟨rfl, c0, c1, hb⟩ := hcut
    obtain ⟨k1, k2, kw, ke⟩ := HK.out
    cases kx : Fl.key x with
    | none =>
      have f1 : FloatKind.f64.format.order x m180 = none := Fl.ord_nan_l kx
      have f2 : FloatKind.f64.format.order x c180 = none := Fl.ord_nan_l kx
      have f3 : FloatKind.f64.format.order we x = none := Fl.ord_nan_r kx
      have f4 : FloatKind.f64.format.order x ea = none := Fl.ord_nan_l kx
      have HX : Hid (inB we ea x = false) := inB_nan kx
      clear kw ke k1 k2 kx
      go_wp2
      refine wp_loop_rounds 2 ?_
      rw [rounds_succ]
      go_wp2
      rw [rounds_succ]
      go_wp2_with (go_at_call 12; refine (inBox_any _ _ _ _).mono ?_; rintro e w' ⟨rfl, rfl⟩; first | rw [HX.out] | rw [HC.out])
      go_ret
      exact ⟨by simp, hb⟩
    | some X =>
      rcases Int.lt_trichotomy X (-K) with hx | hx | hx
      · have f1 : FloatKind.f64.format.order x m180 = some .lt := Fl.ord_lt kx k2 (by omega)
        have f2 : FloatKind.f64.format.order x c180 = some .lt := Fl.ord_lt kx k1 (by omega)
        have f3 : (FloatKind.f64.format.order we x == some .lt || FloatKind.f64.format.order we x == some .eq) = false := (leF_key kw kx).trans (decide_eq_false (by omega))
        have f4 : (FloatKind.f64.format.order x ea == some .lt || FloatKind.f64.format.order x ea == some .eq) = true := (leF_key kx ke).trans (decide_eq_true (by omega))
        have HX : Hid (inB we ea x = false) := by
          show _ = _
          rw [inB_key kw ke kx k1 k2]
          exact decide_eq_false (by omega)
        clear kw ke k1 k2 kx
        go_wp2
        refine wp_loop_rounds 2 ?_
        rw [rounds_succ]
        go_wp2
        rw [rounds_succ]
        go_wp2_with (go_at_call 12; refine (inBox_any _ _ _ _).mono ?_; rintro e w' ⟨rfl, rfl⟩; first | rw [HX.out] | rw [HC.out])
        go_ret
        exact ⟨by simp, hb⟩
      · by_cases hq : W ≤ X
        · have f1 : FloatKind.f64.format.order x m180 = some .eq := Fl.ord_eq kx k2 (by omega)
          have f2 : FloatKind.f64.format.order x c180 = some .lt := Fl.ord_lt kx k1 (by omega)
          have f3 : (FloatKind.f64.format.order we x == some .lt || FloatKind.f64.format.order we x == some .eq) = true := (leF_key kw kx).trans (decide_eq_true (by omega))
          have f4 : (FloatKind.f64.format.order x ea == some .lt || FloatKind.f64.format.order x ea == some .eq) = true := (leF_key kx ke).trans (decide_eq_true (by omega))
          have HX : Hid (inB we ea x = true) := by
            show _ = _
            rw [inB_key kw ke kx k1 k2]
            exact decide_eq_true (by omega)
          clear kw ke k1 k2 kx
          go_wp2
          refine wp_loop_rounds 2 ?_
          rw [rounds_succ]
          go_wp2
          rw [rounds_succ]
          go_wp2_with (go_at_call 12; refine (inBox_any _ _ _ _).mono ?_; rintro e w' ⟨rfl, rfl⟩; first | rw [HX.out] | rw [HC.out])
          go_ret
          exact ⟨by simp, hb⟩
        · have f1 : FloatKind.f64.format.order x m180 = some .eq := Fl.ord_eq kx k2 (by omega)
          have f2 : FloatKind.f64.format.order x c180 = some .lt := Fl.ord_lt kx k1 (by omega)
          have f3 : (FloatKind.f64.format.order we x == some .lt || FloatKind.f64.format.order we x == some .eq) = false := (leF_key kw kx).trans (decide_eq_false (by omega))
          have f4 : (FloatKind.f64.format.order x ea == some .lt || FloatKind.f64.format.order x ea == some .eq) = true := (leF_key kx ke).trans (decide_eq_true (by omega))
          have HX : Hid (inB we ea x = false) := by
            show _ = _
            rw [inB_key kw ke kx k1 k2]
            exact decide_eq_false (by omega)
          clear kw ke k1 k2 kx
          go_wp2
          refine wp_loop_rounds 2 ?_
          rw [rounds_succ]
          go_wp2
          rw [rounds_succ]
          go_wp2_with (go_at_call 12; refine (inBox_any _ _ _ _).mono ?_; rintro e w' ⟨rfl, rfl⟩; first | rw [HX.out] | rw [HC.out])
          go_ret
          exact ⟨by simp, hb⟩
      · rcases Int.lt_trichotomy X K with hx | hx | hx
        · by_cases hq : W ≤ X
          · by_cases hq2 : X ≤ E
            · have f1 : FloatKind.f64.format.order x m180 = some .gt := Fl.ord_gt kx k2 (by omega)
              have f2 : FloatKind.f64.format.order x c180 = some .lt := Fl.ord_lt kx k1 (by omega)
              have f3 : (FloatKind.f64.format.order we x == some .lt || FloatKind.f64.format.order we x == some .eq) = true := (leF_key kw kx).trans (decide_eq_true (by omega))
              have f4 : (FloatKind.f64.format.order x ea == some .lt || FloatKind.f64.format.order x ea == some .eq) = true := (leF_key kx ke).trans (decide_eq_true (by omega))
              have HX : Hid (inB we ea x = true) := by
                show _ = _
                rw [inB_key kw ke kx k1 k2]
                exact decide_eq_true (by omega)
              clear kw ke k1 k2 kx
              go_wp2
              refine wp_loop_rounds 2 ?_
              rw [rounds_succ]
              go_wp2
              rw [rounds_succ]
              go_wp2_with (go_at_call 12; refine (inBox_any _ _ _ _).mono ?_; rintro e w' ⟨rfl, rfl⟩; first | rw [HX.out] | rw [HC.out])
              go_ret
              exact ⟨by simp, hb⟩
            · have f1 : FloatKind.f64.format.order x m180 = some .gt := Fl.ord_gt kx k2 (by omega)
              have f2 : FloatKind.f64.format.order x c180 = some .lt := Fl.ord_lt kx k1 (by omega)
              have f3 : (FloatKind.f64.format.order we x == some .lt || FloatKind.f64.format.order we x == some .eq) = true := (leF_key kw kx).trans (decide_eq_true (by omega))
              have f4 : (FloatKind.f64.format.order x ea == some .lt || FloatKind.f64.format.order x ea == some .eq) = false := (leF_key kx ke).trans (decide_eq_false (by omega))
              have HX : Hid (inB we ea x = false) := by
                show _ = _
                rw [inB_key kw ke kx k1 k2]
                exact decide_eq_false (by omega)
              clear kw ke k1 k2 kx
              go_wp2
              refine wp_loop_rounds 2 ?_
              rw [rounds_succ]
              go_wp2
              rw [rounds_succ]
              go_wp2_with (go_at_call 12; refine (inBox_any _ _ _ _).mono ?_; rintro e w' ⟨rfl, rfl⟩; first | rw [HX.out] | rw [HC.out])
              go_ret
              exact ⟨by simp, hb⟩
          · have f1 : FloatKind.f64.format.order x m180 = some .gt := Fl.ord_gt kx k2 (by omega)
            have f2 : FloatKind.f64.format.order x c180 = some .lt := Fl.ord_lt kx k1 (by omega)
            have f3 : (FloatKind.f64.format.order we x == some .lt || FloatKind.f64.format.order we x == some .eq) = false := (leF_key kw kx).trans (decide_eq_false (by omega))
            have f4 : (FloatKind.f64.format.order x ea == some .lt || FloatKind.f64.format.order x ea == some .eq) = true := (leF_key kx ke).trans (decide_eq_true (by omega))
            have HX : Hid (inB we ea x = false) := by
              show _ = _
              rw [inB_key kw ke kx k1 k2]
              exact decide_eq_false (by omega)
            clear kw ke k1 k2 kx
            go_wp2
            refine wp_loop_rounds 2 ?_
            rw [rounds_succ]
            go_wp2
            rw [rounds_succ]
            go_wp2_with (go_at_call 12; refine (inBox_any _ _ _ _).mono ?_; rintro e w' ⟨rfl, rfl⟩; first | rw [HX.out] | rw [HC.out])
            go_ret
            exact ⟨by simp, hb⟩
        · have f1 : FloatKind.f64.format.order x m180 = some .gt := Fl.ord_gt kx k2 (by omega)
          have f2 : FloatKind.f64.format.order x c180 = some .eq := Fl.ord_eq kx k1 (by omega)
          have f3 : (FloatKind.f64.format.order we x == some .lt || FloatKind.f64.format.order we x == some .eq) = true := (leF_key kw kx).trans (decide_eq_true (by omega))
          have f4 : (FloatKind.f64.format.order x ea == some .lt || FloatKind.f64.format.order x ea == some .eq) = false := (leF_key kx ke).trans (decide_eq_false (by omega))
          have HX : Hid (inB we ea x = false) := by
            show _ = _
            rw [inB_key kw ke kx k1 k2]
            exact decide_eq_false (by omega)
          clear kw ke k1 k2 kx
          go_wp2
          refine wp_loop_rounds 2 ?_
          rw [rounds_succ]
          go_wp2
          rw [rounds_succ]
          go_wp2_with (go_at_call 12; refine (inBox_any _ _ _ _).mono ?_; rintro e w' ⟨rfl, rfl⟩; first | rw [HX.out] | rw [HC.out])
          go_ret
          exact ⟨by simp, hb⟩
        · have f1 : FloatKind.f64.format.order x m180 = some .gt := Fl.ord_gt kx k2 (by omega)
          have f2 : FloatKind.f64.format.order x c180 = some .gt := Fl.ord_gt kx k1 (by omega)
          have f3 : (FloatKind.f64.format.order we x == some .lt || FloatKind.f64.format.order we x == some .eq) = true := (leF_key kw kx).trans (decide_eq_true (by omega))
          have f4 : (FloatKind.f64.format.order x ea == some .lt || FloatKind.f64.format.order x ea == some .eq) = false := (leF_key kx ke).trans (decide_eq_false (by omega))
          have HX : Hid (inB we ea x = false) := by
            show _ = _
            rw [inB_key kw ke kx k1 k2]
            exact decide_eq_false (by omega)
          clear kw ke k1 k2 kx
          go_wp2
          refine wp_loop_rounds 2 ?_
          rw [rounds_succ]
          go_wp2
          rw [rounds_succ]
          go_wp2_with (go_at_call 12; refine (inBox_any _ _ _ _).mono ?_; rintro e w' ⟨rfl, rfl⟩; first | rw [HX.out] | rw [HC.out])
          go_ret
          exact ⟨by simp, hb⟩


end Go.Proofs.Qxb6604197a
