/-
  THE WALKS OF (Cell).halves (14), ZZCellHalves (9).
-/
import Derived.Test.Qxb6604197aAxisWalk
import Derived.RegionTactic
import Derived.BigQuiet
import Derived.Deep.QuietTactic
namespace Go.Proofs.Qxb6604197a
open Go.RowKit
attribute [local go_sem] run_store_float

/-- A cell's four numbers as a block. -/
abbrev cellO (a b c d : Nat) : Obj := .cells #[.float .f64 a, .float .f64 b, .float .f64 c, .float .f64 d] 40
abbrev halvesW (a b c d : Nat) (w : World) : World := (((w.alloc (cellO a b c d)).alloc (cellO a b c d)).alloc (cellO a b c d)).drew

/-- Four floats lie in block g, none of its cells is frozen. -/
def Lay (g x0 x1 x2 x3 : Nat) (W : World) : Prop :=
  (W.cell? ⟨g, 0, none⟩ = some (.float .f64 x0) ∧ W.cell? ⟨g, 1, none⟩ = some (.float .f64 x1) ∧ W.cell? ⟨g, 2, none⟩ = some (.float .f64 x2) ∧ W.cell? ⟨g, 3, none⟩ = some (.float .f64 x3)) ∧ ∀ o, W.frozen? ⟨g, o, none⟩ = false

theorem lay1 (a b c d : Nat) (w : World) : Lay (w.heap.size + 1) a b c d (halvesW a b c d w) := by
  refine ⟨⟨?_, ?_, ?_, ?_⟩, fun o => ?_⟩
  all_goals simp [go_sem]
theorem lay2 (a b c d : Nat) (w : World) : Lay (w.heap.size + 1 + 1) a b c d (halvesW a b c d w) := by
  refine ⟨⟨?_, ?_, ?_, ?_⟩, fun o => ?_⟩
  all_goals simp [go_sem]

theorem Lay.below {g a b c d : Nat} {W W1 : World} (h : Lay g a b c d W) (hg : g < W.heap.size) (hb : Below W.heap.size W W1) : Lay g a b c d W1 := by
  obtain ⟨⟨a1, a2, a3, a4⟩, f1⟩ := h
  refine ⟨⟨?_, ?_, ?_, ?_⟩, fun o => ?_⟩
  · rw [hb.cell (p := ⟨g, 0, none⟩) hg]; exact a1
  · rw [hb.cell (p := ⟨g, 1, none⟩) hg]; exact a2
  · rw [hb.cell (p := ⟨g, 2, none⟩) hg]; exact a3
  · rw [hb.cell (p := ⟨g, 3, none⟩) hg]; exact a4
  · rw [hb.frozen (p := ⟨g, o, none⟩) hg]; exact f1 o

theorem ne_block {g g' o o' : Nat} (h : g' ≠ g) : (⟨g', o', none⟩ : Addr) ≠ ⟨g, o, none⟩ := fun e => h (by injection e)
theorem ne_off {g o o' : Nat} (h : o' ≠ o) : (⟨g, o', none⟩ : Addr) ≠ ⟨g, o, none⟩ := fun e => h (by injection e)

theorem Lay.other {g a b c d g' o' : Nat} {W : World} (h : Lay g a b c d W) (hg : g' ≠ g) (u : Value) : Lay g a b c d (W.setCell ⟨g', o', none⟩ u) := by
  obtain ⟨⟨a1, a2, a3, a4⟩, f1⟩ := h
  refine ⟨⟨?_, ?_, ?_, ?_⟩, fun o => ?_⟩
  · rw [World.cell?_setCell_other _ _ _ _ (ne_block hg)]; exact a1
  · rw [World.cell?_setCell_other _ _ _ _ (ne_block hg)]; exact a2
  · rw [World.cell?_setCell_other _ _ _ _ (ne_block hg)]; exact a3
  · rw [World.cell?_setCell_other _ _ _ _ (ne_block hg)]; exact a4
  · rw [World.frozen?_setCell]; exact f1 o
theorem Lay.set0 {g a b c d : Nat} {W : World} (h : Lay g a b c d W) (r : Nat) : Lay g r b c d (W.setCell ⟨g, 0, none⟩ (.float .f64 r)) := by
  obtain ⟨⟨a1, a2, a3, a4⟩, f1⟩ := h
  refine ⟨⟨?_, ?_, ?_, ?_⟩, fun o => ?_⟩
  · exact World.cell?_setCell_same _ _ _ a1
  · rw [World.cell?_setCell_other _ _ _ _ (ne_off (by decide))]; exact a2
  · rw [World.cell?_setCell_other _ _ _ _ (ne_off (by decide))]; exact a3
  · rw [World.cell?_setCell_other _ _ _ _ (ne_off (by decide))]; exact a4
  · rw [World.frozen?_setCell]; exact f1 o
theorem Lay.set1 {g a b c d : Nat} {W : World} (h : Lay g a b c d W) (r : Nat) : Lay g a r c d (W.setCell ⟨g, 1, none⟩ (.float .f64 r)) := by
  obtain ⟨⟨a1, a2, a3, a4⟩, f1⟩ := h
  refine ⟨⟨?_, ?_, ?_, ?_⟩, fun o => ?_⟩
  · rw [World.cell?_setCell_other _ _ _ _ (ne_off (by decide))]; exact a1
  · exact World.cell?_setCell_same _ _ _ a2
  · rw [World.cell?_setCell_other _ _ _ _ (ne_off (by decide))]; exact a3
  · rw [World.cell?_setCell_other _ _ _ _ (ne_off (by decide))]; exact a4
  · rw [World.frozen?_setCell]; exact f1 o
theorem Lay.set2 {g a b c d : Nat} {W : World} (h : Lay g a b c d W) (r : Nat) : Lay g a b r d (W.setCell ⟨g, 2, none⟩ (.float .f64 r)) := by
  obtain ⟨⟨a1, a2, a3, a4⟩, f1⟩ := h
  refine ⟨⟨?_, ?_, ?_, ?_⟩, fun o => ?_⟩
  · rw [World.cell?_setCell_other _ _ _ _ (ne_off (by decide))]; exact a1
  · rw [World.cell?_setCell_other _ _ _ _ (ne_off (by decide))]; exact a2
  · exact World.cell?_setCell_same _ _ _ a3
  · rw [World.cell?_setCell_other _ _ _ _ (ne_off (by decide))]; exact a4
  · rw [World.frozen?_setCell]; exact f1 o
theorem Lay.set3 {g a b c d : Nat} {W : World} (h : Lay g a b c d W) (r : Nat) : Lay g a b c r (W.setCell ⟨g, 3, none⟩ (.float .f64 r)) := by
  obtain ⟨⟨a1, a2, a3, a4⟩, f1⟩ := h
  refine ⟨⟨?_, ?_, ?_, ?_⟩, fun o => ?_⟩
  · rw [World.cell?_setCell_other _ _ _ _ (ne_off (by decide))]; exact a1
  · rw [World.cell?_setCell_other _ _ _ _ (ne_off (by decide))]; exact a2
  · rw [World.cell?_setCell_other _ _ _ _ (ne_off (by decide))]; exact a3
  · exact World.cell?_setCell_same _ _ _ a4
  · rw [World.frozen?_setCell]; exact f1 o

/-- A store of what is there already. -/
theorem setCell_self {w : World} {g o : Nat} {v : Value} (h : w.cell? ⟨g, o, none⟩ = some v) : w.setCell ⟨g, o, none⟩ v = w := by
  unfold World.cell? at h
  cases hg : w.heap[g]? with
  | none => simp [hg] at h
  | some ob =>
    cases ob with
    | cells cur t fr =>
      simp [hg] at h
      rw [setCell_eq_setRow w g o cur t fr v hg]
      have : cur.setIfInBounds o v = cur := by
        apply Array.ext
        · simp
        · intro k h1 h2
          rw [Array.getElem_setIfInBounds]
          split
          · rename_i e
            subst e
            rw [Array.getElem?_eq_getElem h2] at h
            simpa using h.symm
          · rfl
      rw [this]
      exact setRow_self w g cur t fr hg
    | _ => simp [hg] at h

/-- The halves: of the split axis the middle is the lower half's end and the upper half's begin. -/
def HalvesPost (a b c d : Nat) (n : Int) (w : World) (e : Ending) (w' : World) : Prop :=
  ∃ r s, Below w.heap.size w w' ∧
    ((n % 2 = 0 ∧ Fl.cl r = Fl.fmid (Fl.cl c) (Fl.cl d) ∧ Fl.cl s = Fl.fmid (Fl.cl c) (Fl.cl d) ∧
        e = .returned (.tuple #[.agg #[.float .f64 a, .float .f64 b, .float .f64 c, .float .f64 r], .agg #[.float .f64 a, .float .f64 b, .float .f64 s, .float .f64 d]])) ∨
     (n % 2 = 1 ∧ Fl.cl r = Fl.fmid (Fl.cl a) (Fl.cl b) ∧ Fl.cl s = Fl.fmid (Fl.cl a) (Fl.cl b) ∧
        e = .returned (.tuple #[.agg #[.float .f64 a, .float .f64 r, .float .f64 c, .float .f64 d], .agg #[.float .f64 s, .float .f64 b, .float .f64 c, .float .f64 d]])))

set_option maxHeartbeats 1000000 in
theorem halves_even (a b c d : Nat) (n : Int) (w : World) (hn : n % 2 = 0) (ht : (n.tmod 2 == 0) = true) :
    Calls Try.prog 14 #[.agg #[.float .f64 a, .float .f64 b, .float .f64 c, .float .f64 d], .int .i64 n] w (HalvesPost a b c d n w) := by
  have HN : Hid (n % 2 = 0) := hn
  clear hn
  go_enter Try.func14, Try.ntmps14
  go_wp2
  go_region
  go_wp2_with fail
  have hl := lay1 a b c d w
  have hu := lay2 a b c d w
  have hz : (halvesW a b c d w).heap.size = w.heap.size + 1 + 1 + 1 := by simp [go_sem]
  have hb0 : Below w.heap.size w (halvesW a b c d w) := ((((Below.refl _ _).alloc (Nat.le_refl _) _).alloc (by simp) _).alloc (by simp; omega) _).drew
  refine (keep_any (w.heap.size + 1) 2 c d false (halvesW a b c d w) (by omega) hl.1.2.2.1 hl.1.2.2.2 (hl.2 2) (hl.2 3)).mono ?_
  rintro e w2 ⟨r, W1, rfl, hr, hb1, rfl⟩
  have HR : Hid (Fl.cl r = Fl.fmid (Fl.cl c) (Fl.cl d)) := hr
  clear hr
  have hl1 := (hl.below (by omega) hb1).set3 r
  have hu1 := (hu.below (by omega) hb1).other (g' := w.heap.size + 1) (o' := 3) (by omega) (.float .f64 r)
  have hz1 : w.heap.size + 1 + 1 < (W1.setCell ⟨w.heap.size + 1, 3, none⟩ (.float .f64 r)).heap.size := by have := hb1.size; simp [World.setCell]; omega
  have hb2 : Below w.heap.size w (W1.setCell ⟨w.heap.size + 1, 3, none⟩ (.float .f64 r)) := (hb0.trans (hb1.mono (by omega))).setCell (by simp) _
  have HL1 : Hid (Lay (w.heap.size + 1) a b c r (W1.setCell ⟨w.heap.size + 1, 3, none⟩ (.float .f64 r))) := hl1
  have HU1 : Hid (Lay (w.heap.size + 1 + 1) a b c d (W1.setCell ⟨w.heap.size + 1, 3, none⟩ (.float .f64 r))) := hu1
  have HZ1 : Hid (w.heap.size + 1 + 1 < (W1.setCell ⟨w.heap.size + 1, 3, none⟩ (.float .f64 r)).heap.size) := hz1
  have HB2 : Hid (Below w.heap.size w (W1.setCell ⟨w.heap.size + 1, 3, none⟩ (.float .f64 r))) := hb2
  clear hl hu hl1 hu1 hz1 hb2 hb0 hb1 hz
  go_wp2_with fail
  have hl1 := HL1.out
  have hu1 := HU1.out
  have hz1 := HZ1.out
  have hb2 := HB2.out
  clear HL1 HU1 HZ1 HB2
  generalize W1.setCell ⟨w.heap.size + 1, 3, none⟩ (.float .f64 r) = W2 at *
  refine (keep_any (w.heap.size + 1 + 1) 2 c d true W2 hz1 hu1.1.2.2.1 hu1.1.2.2.2 (hu1.2 2) (hu1.2 3)).mono ?_
  rintro e w3 ⟨s, W3, rfl, hs, hb3, rfl⟩
  have HS : Hid (Fl.cl s = Fl.fmid (Fl.cl c) (Fl.cl d)) := hs
  clear hs
  have hl2 := (hl1.below (by omega) hb3).other (g' := w.heap.size + 1 + 1) (o' := 2) (by omega) (.float .f64 s)
  have hu2 := (hu1.below hz1 hb3).set2 s
  have hb4 : Below w.heap.size w (W3.setCell ⟨w.heap.size + 1 + 1, 2, none⟩ (.float .f64 s)) := (hb2.trans (hb3.mono (by omega))).setCell (by simp; omega) _
  rw [show (if true = true then 2 else 2 + 1) = 2 from rfl]
  clear hl1 hu1 hz1 hb2 hb3
  generalize W3.setCell ⟨w.heap.size + 1 + 1, 2, none⟩ (.float .f64 s) = W4 at *
  obtain ⟨⟨l0, l1, l2, l3⟩, lf⟩ := hl2
  obtain ⟨⟨u0, u1, u2, u3⟩, uf⟩ := hu2
  go_wp2
  rw [setCell_self l0, setCell_self l1, setCell_self l2, setCell_self l3, setCell_self u0, setCell_self u1, setCell_self u2, setCell_self u3]
  refine bodyPost_ret (v := .tuple #[.agg #[.float .f64 a, .float .f64 b, .float .f64 c, .float .f64 r], .agg #[.float .f64 a, .float .f64 b, .float .f64 s, .float .f64 d]]) (by simp [results, Try.results14, go_sem, l0, l1, l2, l3, u0, u1, u2, u3]) rfl ⟨r, s, hb4, .inl ⟨HN.out, HR.out, HS.out, rfl⟩⟩

set_option maxHeartbeats 1000000 in
theorem halves_odd (a b c d : Nat) (n : Int) (w : World) (hn : n % 2 = 1) (ht : (n.tmod 2 == 0) = false) :
    Calls Try.prog 14 #[.agg #[.float .f64 a, .float .f64 b, .float .f64 c, .float .f64 d], .int .i64 n] w (HalvesPost a b c d n w) := by
  have HN : Hid (n % 2 = 1) := hn
  clear hn
  go_enter Try.func14, Try.ntmps14
  go_wp2
  go_region
  go_wp2_with fail
  have hl := lay1 a b c d w
  have hu := lay2 a b c d w
  have hz : (halvesW a b c d w).heap.size = w.heap.size + 1 + 1 + 1 := by simp [go_sem]
  have hb0 : Below w.heap.size w (halvesW a b c d w) := ((((Below.refl _ _).alloc (Nat.le_refl _) _).alloc (by simp) _).alloc (by simp; omega) _).drew
  refine (keep_any (w.heap.size + 1) 0 a b false (halvesW a b c d w) (by omega) hl.1.1 hl.1.2.1 (hl.2 0) (hl.2 1)).mono ?_
  rintro e w2 ⟨r, W1, rfl, hr, hb1, rfl⟩
  have HR : Hid (Fl.cl r = Fl.fmid (Fl.cl a) (Fl.cl b)) := hr
  clear hr
  have hl1 := (hl.below (by omega) hb1).set1 r
  have hu1 := (hu.below (by omega) hb1).other (g' := w.heap.size + 1) (o' := 1) (by omega) (.float .f64 r)
  have hz1 : w.heap.size + 1 + 1 < (W1.setCell ⟨w.heap.size + 1, 1, none⟩ (.float .f64 r)).heap.size := by have := hb1.size; simp [World.setCell]; omega
  have hb2 : Below w.heap.size w (W1.setCell ⟨w.heap.size + 1, 1, none⟩ (.float .f64 r)) := (hb0.trans (hb1.mono (by omega))).setCell (by simp) _
  have HL1 : Hid (Lay (w.heap.size + 1) a r c d (W1.setCell ⟨w.heap.size + 1, 1, none⟩ (.float .f64 r))) := hl1
  have HU1 : Hid (Lay (w.heap.size + 1 + 1) a b c d (W1.setCell ⟨w.heap.size + 1, 1, none⟩ (.float .f64 r))) := hu1
  have HZ1 : Hid (w.heap.size + 1 + 1 < (W1.setCell ⟨w.heap.size + 1, 1, none⟩ (.float .f64 r)).heap.size) := hz1
  have HB2 : Hid (Below w.heap.size w (W1.setCell ⟨w.heap.size + 1, 1, none⟩ (.float .f64 r))) := hb2
  clear hl hu hl1 hu1 hz1 hb2 hb0 hb1 hz
  go_wp2_with fail
  have hl1 := HL1.out
  have hu1 := HU1.out
  have hz1 := HZ1.out
  have hb2 := HB2.out
  clear HL1 HU1 HZ1 HB2
  generalize W1.setCell ⟨w.heap.size + 1, 1, none⟩ (.float .f64 r) = W2 at *
  refine (keep_any (w.heap.size + 1 + 1) 0 a b true W2 hz1 hu1.1.1 hu1.1.2.1 (hu1.2 0) (hu1.2 1)).mono ?_
  rintro e w3 ⟨s, W3, rfl, hs, hb3, rfl⟩
  have HS : Hid (Fl.cl s = Fl.fmid (Fl.cl a) (Fl.cl b)) := hs
  clear hs
  have hl2 := (hl1.below (by omega) hb3).other (g' := w.heap.size + 1 + 1) (o' := 0) (by omega) (.float .f64 s)
  have hu2 := (hu1.below hz1 hb3).set0 s
  have hb4 : Below w.heap.size w (W3.setCell ⟨w.heap.size + 1 + 1, 0, none⟩ (.float .f64 s)) := (hb2.trans (hb3.mono (by omega))).setCell (by simp; omega) _
  rw [show (if true = true then 0 else 0 + 1) = 0 from rfl]
  clear hl1 hu1 hz1 hb2 hb3
  generalize W3.setCell ⟨w.heap.size + 1 + 1, 0, none⟩ (.float .f64 s) = W4 at *
  obtain ⟨⟨l0, l1, l2, l3⟩, lf⟩ := hl2
  obtain ⟨⟨u0, u1, u2, u3⟩, uf⟩ := hu2
  go_wp2
  rw [setCell_self l0, setCell_self l1, setCell_self l2, setCell_self l3, setCell_self u0, setCell_self u1, setCell_self u2, setCell_self u3]
  refine bodyPost_ret (v := .tuple #[.agg #[.float .f64 a, .float .f64 r, .float .f64 c, .float .f64 d], .agg #[.float .f64 s, .float .f64 b, .float .f64 c, .float .f64 d]]) (by simp [results, Try.results14, go_sem, l0, l1, l2, l3, u0, u1, u2, u3]) rfl ⟨r, s, hb4, .inr ⟨HN.out, HR.out, HS.out, rfl⟩⟩

theorem halves_any (a b c d : Nat) (n : Int) (w : World) :
    Calls Try.prog 14 #[.agg #[.float .f64 a, .float .f64 b, .float .f64 c, .float .f64 d], .int .i64 n] w (HalvesPost a b c d n w) := by
  by_cases h : n % 2 = 0
  · refine halves_even a b c d n w h ?_
    rw [beq_iff_eq]
    exact Int.tmod_eq_zero_of_dvd (Int.dvd_of_emod_eq_zero h)
  · refine halves_odd a b c d n w (by omega) ?_
    rw [beq_eq_false_iff_ne]
    intro hc
    exact h (Int.emod_eq_zero_of_dvd (Int.dvd_of_tmod_eq_zero hc))

end Go.Proofs.Qxb6604197a
