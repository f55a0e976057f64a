/-
  THE WALKS OF (span).mid (16), (*span).keep (17). A NaN's bits are drawn off the tape: of the result its class alone is said ('Fl.cl').
-/
import Derived.Test.Qxb6604197aBase
import Derived.Test.Qxb6604197aAxis
namespace Go.Proofs.Qxb6604197a
open Go.RowKit
attribute [local go_sem] run_store_float

theorem nan_word' (b k : Nat) (hk : k < 4503599627370495) : Fl.cl (b * 9223372036854775808 + 9218868437227405312 + 1 + k) = none := by
  refine Fl.cl_none ?_
  have hs : Ieee.double.signWeight = 9223372036854775808 := by decide
  have hi : Ieee.double.infRung = 9218868437227405312 := by decide
  have hbn : Ieee.double.binade = 4503599627370496 := by decide
  have hm : (b * 9223372036854775808 + 9218868437227405312 + 1 + k) % 9223372036854775808 = 9218868437227405313 + k := by
    rw [show b * 9223372036854775808 + 9218868437227405312 + 1 + k = (9218868437227405313 + k) + 9223372036854775808 * b from by omega, Nat.add_mul_mod_self_left]
    exact Nat.mod_eq_of_lt (by omega)
  unfold Ieee.Format.read
  dsimp only
  rw [hs, hi, hbn, hm]
  rw [if_neg (by omega), if_neg (by omega), if_neg (by omega)]
  rfl

theorem nan_word (t : Nat) : Fl.cl ((t % 2) * 2 ^ 63 + 0x7ff0000000000000 + 1 + (t / 2) % (2 ^ 52 - 1)) = none :=
  nan_word' (t % 2) ((t / 2) % 4503599627370495) (Nat.mod_lt _ (by decide))

/-- An invalid operation: a NaN, its bits drawn. -/
theorem run_nan (P : Program) (w : World) (op : BinOp) (ho : op = .add ∨ op = .quo) (t : TypeId) (x y : Nat) (h : floatBits op .f64 x y = none) :
    ∃ r, (binOp op t (.float .f64 x) (.float .f64 y)).run P w = .ok (.float .f64 r) w.drew ∧ Fl.cl r = none := by
  rcases ho with rfl | rfl
  · have h' : FloatKind.f64.format.add x y = none := h
    refine ⟨_, ?_, nan_word (w.tape w.drawn (.nanBits .f64 x y))⟩
    simp [binOp, Op.floatArith, h', Question.forced, Question.cut]
  · have h' : FloatKind.f64.format.div x y = none := h
    refine ⟨_, ?_, nan_word (w.tape w.drawn (.nanBits .f64 x y))⟩
    simp [binOp, Op.floatArith, h', Question.forced, Question.cut]

/-- The half of the sum: its class; the world has at most new blocks and draws. -/
def MidPost (lo hi : Nat) (w : World) (e : Ending) (w' : World) : Prop := ∃ r, e = .returned (.float .f64 r) ∧ Fl.cl r = Fl.fmid (Fl.cl lo) (Fl.cl hi) ∧ Below w.heap.size w w'

set_option maxHeartbeats 400000 in
theorem mid_any (lo hi : Nat) (w : World) : Calls Try.prog 16 #[.agg #[.float .f64 lo, .float .f64 hi]] w (MidPost lo hi w) := by
  cases ha : Ieee.double.add lo hi with
  | some s =>
    obtain ⟨h1, h2⟩ := Fl.add_some ha
    obtain ⟨r, hr⟩ := Fl.div_two h2
    have HF : Hid (Fl.cl r = Fl.fmid (Fl.cl lo) (Fl.cl hi)) := by
      show _ = _
      unfold Fl.fmid
      rw [h1, (Fl.div_some hr).2]
      exact hr.symm
    have ra := fun w => run_float_arith (P := Try.prog) w .add 22 .f64 lo hi s ha
    have rd := fun w => run_float_arith (P := Try.prog) w .quo 22 .f64 s 4611686018427387904 r hr
    clear ha h1 h2 hr
    go_enter Try.func16, Try.ntmps16
    go_wp2
    go_ret
    exact ⟨r, rfl, HF.out, (Below.refl _ _).alloc (Nat.le_refl _) _⟩
  | none =>
    obtain ⟨s, ra, hs⟩ := run_nan Try.prog (w.alloc (.cells #[.float .f64 lo, .float .f64 hi] 38)) .add (.inl rfl) 22 lo hi ha
    obtain ⟨r, rd, hr⟩ := run_nan Try.prog (w.alloc (.cells #[.float .f64 lo, .float .f64 hi] 38)).drew .quo (.inr rfl) 22 s 4611686018427387904 (Fl.div_nan hs)
    have HF : Hid (Fl.cl r = Fl.fmid (Fl.cl lo) (Fl.cl hi)) := by
      show _ = _
      unfold Fl.fmid
      rw [Fl.add_none ha, hr]
      rfl
    clear ha hs hr
    go_enter Try.func16, Try.ntmps16
    go_wp2
    go_ret
    exact ⟨r, rfl, HF.out, (((Below.refl _ _).alloc (Nat.le_refl _) _).drew).drew⟩

/-- 'keep': one end of the span is set to its middle. -/
def KeepPost (b o lo hi : Nat) (up : Bool) (w : World) (e : Ending) (w' : World) : Prop :=
  ∃ r W1, e = .returned (.tuple #[]) ∧ Fl.cl r = Fl.fmid (Fl.cl lo) (Fl.cl hi) ∧ Below w.heap.size w W1 ∧ w' = W1.setCell ⟨b, if up then o else o + 1, none⟩ (.float .f64 r)

set_option maxHeartbeats 400000 in
theorem keep_any (b o lo hi : Nat) (up : Bool) (w : World) (hb : b < w.heap.size) (h0 : w.cell? ⟨b, o, none⟩ = some (.float .f64 lo)) (h1 : w.cell? ⟨b, o + 1, none⟩ = some (.float .f64 hi))
    (z0 : w.frozen? ⟨b, o, none⟩ = false) (z1 : w.frozen? ⟨b, o + 1, none⟩ = false) :
    Calls Try.prog 17 #[.pointer (some ⟨b, o, none⟩), .bool up] w (KeepPost b o lo hi up w) := by
  cases up
  · go_enter Try.func17, Try.ntmps17
    go_wp2_with fail
    refine (mid_any lo hi _).mono ?_
    rintro e w1 ⟨r, rfl, hr, hb1⟩
    have HR : Hid (Fl.cl r = Fl.fmid (Fl.cl lo) (Fl.cl hi)) := hr
    clear hr
    have g0 : w1.cell? ⟨b, o, none⟩ = some (.float .f64 lo) := by rw [hb1.cell (p := ⟨b, o, none⟩) hb]; exact h0
    have g1 : w1.cell? ⟨b, o + 1, none⟩ = some (.float .f64 hi) := by rw [hb1.cell (p := ⟨b, o + 1, none⟩) hb]; exact h1
    have y0 : w1.frozen? ⟨b, o, none⟩ = false := by rw [hb1.frozen (p := ⟨b, o, none⟩) hb]; exact z0
    have y1 : w1.frozen? ⟨b, o + 1, none⟩ = false := by rw [hb1.frozen (p := ⟨b, o + 1, none⟩) hb]; exact z1
    go_wp2
    go_end0
    exact ⟨r, w1, rfl, HR.out, hb1, rfl⟩
  · go_enter Try.func17, Try.ntmps17
    go_wp2_with fail
    refine (mid_any lo hi _).mono ?_
    rintro e w1 ⟨r, rfl, hr, hb1⟩
    have HR : Hid (Fl.cl r = Fl.fmid (Fl.cl lo) (Fl.cl hi)) := hr
    clear hr
    have g0 : w1.cell? ⟨b, o, none⟩ = some (.float .f64 lo) := by rw [hb1.cell (p := ⟨b, o, none⟩) hb]; exact h0
    have g1 : w1.cell? ⟨b, o + 1, none⟩ = some (.float .f64 hi) := by rw [hb1.cell (p := ⟨b, o + 1, none⟩) hb]; exact h1
    have y0 : w1.frozen? ⟨b, o, none⟩ = false := by rw [hb1.frozen (p := ⟨b, o, none⟩) hb]; exact z0
    have y1 : w1.frozen? ⟨b, o + 1, none⟩ = false := by rw [hb1.frozen (p := ⟨b, o + 1, none⟩) hb]; exact z1
    go_wp2
    go_end0
    exact ⟨r, w1, rfl, HR.out, hb1, rfl⟩

end Go.Proofs.Qxb6604197a
