/-
  THE WALKS OF axisIndex (13), ZZAxisIndex (7).
-/
import Derived.Test.Qxb6604197aMid
import Derived.Laws.BitsAllLaws
namespace Go.Proofs.Qxb6604197a
open Go.RowKit
attribute [local go_sem] run_store_float

theorem or_one (x : Nat) (h : x < 1073741824) : bits .or .u64 ((x : Int) * 2) 1 = (x : Int) * 2 + 1 := by
  have e := u64_or_nat (x * 2) 1 (by omega) (by omega)
  have o : x * 2 ||| 1 = x * 2 + 1 := nat_join 1 (x * 2) 1 (by omega) (by omega)
  rw [o] at e
  rw [show ((x * 2 : Nat) : Int) = (x : Int) * 2 from by omega, show ((x * 2 + 1 : Nat) : Int) = (x : Int) * 2 + 1 from by omega, show ((1 : Nat) : Int) = 1 from rfl] at e
  exact e

/-- What the loop keeps: the span's two cells, of the class that k halvings leave; nothing old has turned. -/
def Span (v lo0 hi0 k g : Nat) (w wr : World) : Prop :=
  ∃ lo hi, wr.cell? ⟨g, 0, none⟩ = some (.float .f64 lo) ∧ wr.cell? ⟨g, 1, none⟩ = some (.float .f64 hi) ∧ wr.frozen? ⟨g, 0, none⟩ = false ∧ wr.frozen? ⟨g, 1, none⟩ = false ∧
    (Fl.ax v (Fl.cl lo0) (Fl.cl hi0) k).2 = (Fl.cl lo, Fl.cl hi) ∧ g < wr.heap.size ∧ Below g w wr

theorem ax_idx_up {v k i : Nat} {lo hi : Option Nat} (hi' : (Fl.ax v lo hi k).1 = i) (h : Fl.ge v (Fl.fmid (Fl.ax v lo hi k).2.1 (Fl.ax v lo hi k).2.2) = true) :
    Fl.ax v lo hi (k + 1) = (2 * i + 1, Fl.fmid (Fl.ax v lo hi k).2.1 (Fl.ax v lo hi k).2.2, (Fl.ax v lo hi k).2.2) := by
  rw [Fl.ax, Fl.nxt, h, hi']; rfl
theorem ax_idx_dn {v k i : Nat} {lo hi : Option Nat} (hi' : (Fl.ax v lo hi k).1 = i) (h : Fl.ge v (Fl.fmid (Fl.ax v lo hi k).2.1 (Fl.ax v lo hi k).2.2) = false) :
    Fl.ax v lo hi (k + 1) = (2 * i, (Fl.ax v lo hi k).2.1, Fl.fmid (Fl.ax v lo hi k).2.1 (Fl.ax v lo hi k).2.2) := by
  rw [Fl.ax, Fl.nxt, h, hi']; rfl

theorem ret_u64 {a b : Int} (h : a = b) : Ending.returned (.int .u64 a) = .returned (.int .u64 b) := by rw [h]

theorem addr01 (g : Nat) : (⟨g, 0, none⟩ : Addr) ≠ ⟨g, 1, none⟩ := fun e => by injection e with _ h; omega
theorem addr10 (g : Nat) : (⟨g, 1, none⟩ : Addr) ≠ ⟨g, 0, none⟩ := fun e => by injection e with _ h; omega

theorem Span.dn {v lo0 hi0 k g lo hi r r2 : Nat} {w w1 W1 : World} (hs : (Fl.ax v (Fl.cl lo0) (Fl.cl hi0) k).2 = (Fl.cl lo, Fl.cl hi)) (hr : Fl.cl r = Fl.fmid (Fl.cl lo) (Fl.cl hi)) (hb : Fl.ge v (Fl.cl r) = false)
    (hr2 : Fl.cl r2 = Fl.fmid (Fl.cl lo) (Fl.cl hi)) (d0 : w1.cell? ⟨g, 0, none⟩ = some (.float .f64 lo)) (d1 : w1.cell? ⟨g, 1, none⟩ = some (.float .f64 hi)) (y0 : w1.frozen? ⟨g, 0, none⟩ = false) (y1 : w1.frozen? ⟨g, 1, none⟩ = false)
    (hg1 : g < w1.heap.size) (hbel : Below g w w1) (hb2 : Below w1.heap.size w1 W1) : Span v lo0 hi0 (k + 1) g w (W1.setCell ⟨g, 1, none⟩ (.float .f64 r2)) := by
  have e0 : W1.cell? ⟨g, 0, none⟩ = some (.float .f64 lo) := by rw [hb2.cell (p := ⟨g, 0, none⟩) hg1]; exact d0
  have e1 : W1.cell? ⟨g, 1, none⟩ = some (.float .f64 hi) := by rw [hb2.cell (p := ⟨g, 1, none⟩) hg1]; exact d1
  have x0 : W1.frozen? ⟨g, 0, none⟩ = false := by rw [hb2.frozen (p := ⟨g, 0, none⟩) hg1]; exact y0
  have x1 : W1.frozen? ⟨g, 1, none⟩ = false := by rw [hb2.frozen (p := ⟨g, 1, none⟩) hg1]; exact y1
  refine ⟨lo, r2, ?_, World.cell?_setCell_same _ _ _ e1, ?_, ?_, ?_, ?_, ?_⟩
  · rw [World.cell?_setCell_other _ _ _ _ (addr10 g)]; exact e0
  · rw [World.frozen?_setCell]; exact x0
  · rw [World.frozen?_setCell]; exact x1
  · rw [ax_idx_dn rfl (by rw [hs, ← hr]; exact hb), hs, hr2]
  · exact Nat.lt_of_lt_of_le hg1 (by have := hb2.size; simpa [World.setCell] using this)
  · exact (hbel.trans (hb2.mono (Nat.le_of_lt hg1))).setCell (Nat.le_refl _) _

theorem Span.up {v lo0 hi0 k g lo hi r r2 : Nat} {w w1 W1 : World} (hs : (Fl.ax v (Fl.cl lo0) (Fl.cl hi0) k).2 = (Fl.cl lo, Fl.cl hi)) (hr : Fl.cl r = Fl.fmid (Fl.cl lo) (Fl.cl hi)) (hb : Fl.ge v (Fl.cl r) = true)
    (hr2 : Fl.cl r2 = Fl.fmid (Fl.cl lo) (Fl.cl hi)) (d0 : w1.cell? ⟨g, 0, none⟩ = some (.float .f64 lo)) (d1 : w1.cell? ⟨g, 1, none⟩ = some (.float .f64 hi)) (y0 : w1.frozen? ⟨g, 0, none⟩ = false) (y1 : w1.frozen? ⟨g, 1, none⟩ = false)
    (hg1 : g < w1.heap.size) (hbel : Below g w w1) (hb2 : Below w1.heap.size w1 W1) : Span v lo0 hi0 (k + 1) g w (W1.setCell ⟨g, 0, none⟩ (.float .f64 r2)) := by
  have e0 : W1.cell? ⟨g, 0, none⟩ = some (.float .f64 lo) := by rw [hb2.cell (p := ⟨g, 0, none⟩) hg1]; exact d0
  have e1 : W1.cell? ⟨g, 1, none⟩ = some (.float .f64 hi) := by rw [hb2.cell (p := ⟨g, 1, none⟩) hg1]; exact d1
  have x0 : W1.frozen? ⟨g, 0, none⟩ = false := by rw [hb2.frozen (p := ⟨g, 0, none⟩) hg1]; exact y0
  have x1 : W1.frozen? ⟨g, 1, none⟩ = false := by rw [hb2.frozen (p := ⟨g, 1, none⟩) hg1]; exact y1
  refine ⟨r2, hi, World.cell?_setCell_same _ _ _ e0, ?_, ?_, ?_, ?_, ?_, ?_⟩
  · rw [World.cell?_setCell_other _ _ _ _ (addr01 g)]; exact e1
  · rw [World.frozen?_setCell]; exact x0
  · rw [World.frozen?_setCell]; exact x1
  · rw [ax_idx_up rfl (by rw [hs, ← hr]; exact hb), hs, hr2]
  · exact Nat.lt_of_lt_of_le hg1 (by have := hb2.size; simpa [World.setCell] using this)
  · exact (hbel.trans (hb2.mono (Nat.le_of_lt hg1))).setCell (Nat.le_refl _) _

set_option maxHeartbeats 1000000 in
theorem axis_any (v lo0 hi0 : Nat) (w : World) :
    Calls Try.prog 13 #[.float .f64 v, .agg #[.float .f64 lo0, .float .f64 hi0]] w fun e w' => e = .returned (.int .u64 ((Fl.ax v (Fl.cl lo0) (Fl.cl hi0) 30).1 : Nat)) ∧ Below w.heap.size w w' := by
  go_enter Try.func13, Try.ntmps13
  go_wp2
  go_loopw [5, 7] (fun t u wr => ∃ k i : Nat, k ≤ 30 ∧ u = .int .i64 k ∧ t = .int .u64 i ∧ (Fl.ax v (Fl.cl lo0) (Fl.cl hi0) k).1 = i ∧ Span v lo0 hi0 k w.heap.size w wr) (fun _ u _ => 30 - (intOf u).toNat)
  case atStart =>
    refine ⟨0, 0, by omega, rfl, rfl, rfl, lo0, hi0, ?_, ?_, ?_, ?_, rfl, ?_, (Below.refl _ _).alloc (Nat.le_refl _) _⟩ <;> simp [go_sem]
  case round =>
    obtain ⟨k, i, hk, rfl, rfl, hix, hsp⟩ := hrel
    have hil := Fl.ax_lt v (Fl.cl lo0) (Fl.cl hi0) k
    rw [hix] at hil
    have HIX : Hid ((Fl.ax v (Fl.cl lo0) (Fl.cl hi0) k).1 = i) := hix
    clear hix
    by_cases hlt : k < 30
    · have hi30 : i < 1073741824 := Nat.lt_of_lt_of_le hil (Nat.pow_le_pow_right (by decide) (by omega : k ≤ 30))
      clear hil
      obtain ⟨lo, hi, c0, c1, z0, z1, hs, hg, hbel⟩ := hsp
      have HS : Hid ((Fl.ax v (Fl.cl lo0) (Fl.cl hi0) k).2 = (Fl.cl lo, Fl.cl hi)) := hs
      clear hs
      go_wp2_with fail
      refine (mid_any lo hi _).mono ?_
      rintro e w1 ⟨r, rfl, hr, hb1⟩
      have HR : Hid (Fl.cl r = Fl.fmid (Fl.cl lo) (Fl.cl hi)) := hr
      clear hr
      have hge : (FloatKind.f64.format.order v r == some .gt || FloatKind.f64.format.order v r == some .eq) = Fl.ge v (Fl.cl r) := Fl.ge_cl v r
      have d0 : w1.cell? ⟨w.heap.size, 0, none⟩ = some (.float .f64 lo) := by rw [hb1.cell (p := ⟨w.heap.size, 0, none⟩) hg]; exact c0
      have d1 : w1.cell? ⟨w.heap.size, 1, none⟩ = some (.float .f64 hi) := by rw [hb1.cell (p := ⟨w.heap.size, 1, none⟩) hg]; exact c1
      have y0 : w1.frozen? ⟨w.heap.size, 0, none⟩ = false := by rw [hb1.frozen (p := ⟨w.heap.size, 0, none⟩) hg]; exact z0
      have y1 : w1.frozen? ⟨w.heap.size, 1, none⟩ = false := by rw [hb1.frozen (p := ⟨w.heap.size, 1, none⟩) hg]; exact z1
      have hg1 : w.heap.size < w1.heap.size := Nat.lt_of_lt_of_le hg hb1.size
      cases hb : Fl.ge v (Fl.cl r)
      · rw [hb] at hge
        have HB : Hid (Fl.ge v (Fl.cl r) = false) := hb
        clear hb
        go_wp2_with fail
        refine (keep_any w.heap.size 0 lo hi false w1 hg1 d0 d1 y0 y1).mono ?_
        rintro e w2 ⟨r2, W1, rfl, hr2, hb2, rfl⟩
        have HR2 : Hid (Fl.cl r2 = Fl.fmid (Fl.cl lo) (Fl.cl hi)) := hr2
        clear hr2
        go_wp2
        go_roundw
        case rel => exact ⟨k + 1, 2 * i, by omega, by go_num, by go_num, by rw [ax_idx_dn HIX.out (by rw [HS.out, ← HR.out]; exact HB.out)], Span.dn HS.out HR.out HB.out HR2.out d0 d1 y0 y1 hg1 (hbel.trans (hb1.mono (Nat.le_of_lt hg))) hb2⟩
        case measure => simp [intOf]; omega
      · rw [hb] at hge
        have HB : Hid (Fl.ge v (Fl.cl r) = true) := hb
        clear hb
        go_wp2_with fail
        refine (keep_any w.heap.size 0 lo hi true w1 hg1 d0 d1 y0 y1).mono ?_
        rintro e w2 ⟨r2, W1, rfl, hr2, hb2, rfl⟩
        have HR2 : Hid (Fl.cl r2 = Fl.fmid (Fl.cl lo) (Fl.cl hi)) := hr2
        clear hr2
        go_wp2
        go_roundw
        case rel => exact ⟨k + 1, 2 * i + 1, by omega, by go_num, by rw [or_one i hi30]; go_num, by rw [ax_idx_up HIX.out (by rw [HS.out, ← HR.out]; exact HB.out)], Span.up HS.out HR.out HB.out HR2.out d0 d1 y0 y1 hg1 (hbel.trans (hb1.mono (Nat.le_of_lt hg))) hb2⟩
        case measure => simp [intOf]; omega
    · obtain rfl : k = 30 := by omega
      obtain ⟨lo, hi, c0, c1, z0, z1, hs, hg, hbel⟩ := hsp
      clear hs
      go_wp2
      go_ret
      exact ⟨ret_u64 (by rw [HIX.out]), hbel⟩

theorem ZZaxis_any (v lo hi : Nat) (w : World) :
    Calls Try.prog 7 #[.float .f64 v, .float .f64 lo, .float .f64 hi] w fun e w' => e = .returned (.int .u64 ((Fl.ax v (Fl.cl lo) (Fl.cl hi) 30).1 : Nat)) ∧ Below w.heap.size w w' := by
  go_enter Try.func7, Try.ntmps7
  go_wp2_with fail
  refine (axis_any v lo hi _).mono ?_
  rintro e w1 ⟨rfl, hb⟩
  go_wp2
  go_ret
  exact ⟨rfl, hb⟩

end Go.Proofs.Qxb6604197a
