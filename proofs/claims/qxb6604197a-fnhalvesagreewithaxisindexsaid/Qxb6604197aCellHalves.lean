/-
  THE WALK OF ZZCellHalves (9).
-/
import Derived.Test.Qxb6604197aHalves
namespace Go.Proofs.Qxb6604197a
open Go.RowKit
attribute [local go_sem] run_store_float

abbrev G (x : Nat) : Value := .float .f64 x

def CellPost (a b c d : Nat) (n : Int) (w : World) (e : Ending) (w' : World) : Prop :=
  ∃ r s, Below w.heap.size w w' ∧
    ((n % 2 = 0 ∧ Fl.cl r = Fl.fmid (Fl.cl c) (Fl.cl d) ∧ Fl.cl s = Fl.fmid (Fl.cl c) (Fl.cl d) ∧ e = .returned (.tuple #[G a, G b, G c, G r, G a, G b, G s, G d])) ∨
     (n % 2 = 1 ∧ Fl.cl r = Fl.fmid (Fl.cl a) (Fl.cl b) ∧ Fl.cl s = Fl.fmid (Fl.cl a) (Fl.cl b) ∧ e = .returned (.tuple #[G a, G r, G c, G d, G s, G b, G c, G d])))

set_option maxHeartbeats 1000000 in
theorem cell_any (a b c d : Nat) (n : Int) (w : World) : Calls Try.prog 9 #[.float .f64 a, .float .f64 b, .float .f64 c, .float .f64 d, .int .i64 n] w (CellPost a b c d n w) := by
  go_enter Try.func9, Try.ntmps9
  go_wp2_with fail
  refine (halves_any a b c d n _).mono ?_
  rintro e w1 ⟨r, s, hb, h | h⟩
  · obtain ⟨hn, hr, hs, rfl⟩ := h
    have HH : Hid (n % 2 = 0 ∧ Fl.cl r = Fl.fmid (Fl.cl c) (Fl.cl d) ∧ Fl.cl s = Fl.fmid (Fl.cl c) (Fl.cl d)) := ⟨hn, hr, hs⟩
    clear hn hr hs
    have hz : w.heap.size < w1.heap.size := by have := hb.size; simp at this; omega
    have HB : Hid (Below w.heap.size w w1) := ((Below.refl _ _).alloc (Nat.le_refl _) _).trans (hb.mono (by simp))
    clear hb
    go_wp2
    go_quiet (fail)
    go_wp2
    exact bodyPost_ret (v := .tuple #[G a, G b, G c, G r, G a, G b, G s, G d]) (by simp [results, Try.results9, go_sem]) rfl
      ⟨r, s, below_drewN ((HB.out.alloc (by omega) _).alloc (by simp; omega) _) nq, .inl ⟨HH.out.1, HH.out.2.1, HH.out.2.2, rfl⟩⟩
  · obtain ⟨hn, hr, hs, rfl⟩ := h
    have HH : Hid (n % 2 = 1 ∧ Fl.cl r = Fl.fmid (Fl.cl a) (Fl.cl b) ∧ Fl.cl s = Fl.fmid (Fl.cl a) (Fl.cl b)) := ⟨hn, hr, hs⟩
    clear hn hr hs
    have hz : w.heap.size < w1.heap.size := by have := hb.size; simp at this; omega
    have HB : Hid (Below w.heap.size w w1) := ((Below.refl _ _).alloc (Nat.le_refl _) _).trans (hb.mono (by simp))
    clear hb
    go_wp2
    go_quiet (fail)
    go_wp2
    exact bodyPost_ret (v := .tuple #[G a, G r, G c, G d, G s, G b, G c, G d]) (by simp [results, Try.results9, go_sem]) rfl
      ⟨r, s, below_drewN ((HB.out.alloc (by omega) _).alloc (by simp; omega) _) nq, .inr ⟨HH.out.1, HH.out.2.1, HH.out.2.2, rfl⟩⟩

end Go.Proofs.Qxb6604197a
