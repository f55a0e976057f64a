/-
  THE WALK OF FnHalvesAgreeWithAxisIndex (4).
-/
import Derived.Test.Qxb6604197aCellHalves
namespace Go.Proofs.Qxb6604197a
open Go.RowKit
attribute [local go_sem] run_store_float

theorem and1_i64 (n : Int) : bits .and .i64 n 1 = n % 2 := by
  show IntKind.i64.wrap ((BitVec.ofInt 64 n &&& BitVec.ofInt 64 1).toNat : Int) = _
  rw [BitVec.toNat_and, BitVec.toNat_ofInt, show (BitVec.ofInt 64 1).toNat = 1 from rfl, Nat.and_one_is_mod, IntKind.wrap_i64]
  have h : ((n % ((2 ^ 64 : Nat) : Int)).toNat : Int) = n % 18446744073709551616 := by
    rw [Int.toNat_of_nonneg (Int.emod_nonneg _ (by decide))]
    rfl
  omega

theorem or_top (x : Nat) (h : x < 536870912) : bits .or .u64 536870912 (x : Int) = ((536870912 + x : Nat) : Int) := by
  have e := u64_or_nat 536870912 x (by omega) (by omega)
  rw [show 536870912 ||| x = 536870912 + x from nat_join 29 536870912 x (by decide) (by omega)] at e
  exact e

/-- The law, plainly. -/
theorem law_up {v lo hi s A B : Nat} (hs : Fl.cl s = Fl.fmid (Fl.cl lo) (Fl.cl hi)) (hg : Fl.ge v (Fl.cl s) = true) (hA : (Fl.ax v (Fl.cl lo) (Fl.cl hi) 30).1 = A) (hB : (Fl.ax v (Fl.cl s) (Fl.cl hi) 30).1 = B) :
    (A : Int) = bits .or .u64 536870912 ((B : Int) / 2) := by
  rw [hs] at hg hB
  have h1 := Fl.ax_up v (Fl.cl lo) (Fl.cl hi) hg 29
  have h2 := Fl.ax_half v (Fl.fmid (Fl.cl lo) (Fl.cl hi)) (Fl.cl hi) 29
  have h3 := Fl.ax_lt v (Fl.fmid (Fl.cl lo) (Fl.cl hi)) (Fl.cl hi) 29
  rw [hB] at h2
  have hA' : A = 2 ^ 29 + B / 2 := by rw [← hA, h1, h2]
  have hlt : B / 2 < 536870912 := by rw [h2]; exact h3
  rw [show (B : Int) / 2 = ((B / 2 : Nat) : Int) from by omega, or_top (B / 2) hlt, hA']
theorem law_dn {v lo hi s r A B : Nat} (hs : Fl.cl s = Fl.fmid (Fl.cl lo) (Fl.cl hi)) (hr : Fl.cl r = Fl.fmid (Fl.cl lo) (Fl.cl hi)) (hg : Fl.ge v (Fl.cl s) = false) (hA : (Fl.ax v (Fl.cl lo) (Fl.cl hi) 30).1 = A) (hB : (Fl.ax v (Fl.cl lo) (Fl.cl r) 30).1 = B) :
    (A : Int) = (B : Int) / 2 := by
  rw [hs] at hg
  rw [hr] at hB
  have h1 := Fl.ax_dn v (Fl.cl lo) (Fl.cl hi) hg 29
  have h2 := Fl.ax_half v (Fl.cl lo) (Fl.fmid (Fl.cl lo) (Fl.cl hi)) 29
  rw [hB] at h2
  have hA' : A = B / 2 := by rw [← hA, h1, h2]
  rw [hA']
  omega

theorem ret_bool' {a b : Bool} (h : a = b) : Ending.returned (.bool a) = .returned (.bool b) := by rw [h]
theorem ax30_lt (v : Nat) (lo hi : Option Nat) : (Fl.ax v lo hi 30).1 < 1073741824 := Fl.ax_lt v lo hi 30

set_option maxHeartbeats 2000000 in
theorem halves_law (a b c d : Nat) (n : Int) (v : Nat) (w : World) :
    Calls Try.prog 4 #[.float .f64 a, .float .f64 b, .float .f64 c, .float .f64 d, .int .i64 n, .float .f64 v] w fun e w' => e = .returned (.bool true) ∧ Below w.heap.size w w' := by
  have hand := and1_i64 n
  go_enter Try.func4, Try.ntmps4
  go_wp2_with fail
  refine (cell_any a b c d n _).mono ?_
  rintro e w1 ⟨r, s, hb, h | h⟩
  · obtain ⟨hn, hr, hs, rfl⟩ := h
    rw [hn] at hand
    have HH : Hid (n % 2 = 0 ∧ Fl.cl r = Fl.fmid (Fl.cl c) (Fl.cl d) ∧ Fl.cl s = Fl.fmid (Fl.cl c) (Fl.cl d)) := ⟨hn, hr, hs⟩
    clear hn hr hs
    go_wp2_with fail
    have ha := ax30_lt v (Fl.cl c) (Fl.cl d)
    refine (ZZaxis_any v c d _).mono ?_
    rintro e w2 ⟨rfl, hb2⟩
    generalize hA : (Fl.ax v (Fl.cl c) (Fl.cl d) 30).1 = A at ha ⊢
    have HA : Hid ((Fl.ax v (Fl.cl c) (Fl.cl d) 30).1 = A) := hA
    clear hA
    have hge : (FloatKind.f64.format.order v s == some .gt || FloatKind.f64.format.order v s == some .eq) = Fl.ge v (Fl.cl s) := Fl.ge_cl v s
    cases hg : Fl.ge v (Fl.cl s)
    · rw [hg] at hge
      have HG : Hid (Fl.ge v (Fl.cl s) = false) := hg
      clear hg
      go_wp2_with fail
      have hbl := ax30_lt v (Fl.cl c) (Fl.cl r)
      refine (ZZaxis_any v c r _).mono ?_
      rintro e w3 ⟨rfl, hb3⟩
      generalize hB : (Fl.ax v (Fl.cl c) (Fl.cl r) 30).1 = B at hbl ⊢
      have HB : Hid ((Fl.ax v (Fl.cl c) (Fl.cl r) 30).1 = B) := hB
      clear hB
      have HL : Hid ((A : Int) = (B : Int) / 2) := law_dn HH.out.2.2 HH.out.2.1 HG.out HA.out HB.out
      go_wp2
      go_ret
      exact ⟨ret_bool' (by rw [beq_iff_eq]; exact HL.out), (hb.trans (hb2.mono hb.size)).trans (hb3.mono (Nat.le_trans hb.size hb2.size))⟩
    · rw [hg] at hge
      have HG : Hid (Fl.ge v (Fl.cl s) = true) := hg
      clear hg
      go_wp2_with fail
      have hbl := ax30_lt v (Fl.cl s) (Fl.cl d)
      refine (ZZaxis_any v s d _).mono ?_
      rintro e w3 ⟨rfl, hb3⟩
      generalize hB : (Fl.ax v (Fl.cl s) (Fl.cl d) 30).1 = B at hbl ⊢
      have HB : Hid ((Fl.ax v (Fl.cl s) (Fl.cl d) 30).1 = B) := hB
      clear hB
      have HL : Hid ((A : Int) = bits .or .u64 536870912 ((B : Int) / 2)) := law_up HH.out.2.2 HG.out HA.out HB.out
      go_wp2
      go_ret
      exact ⟨ret_bool' (by rw [beq_iff_eq]; exact HL.out), (hb.trans (hb2.mono hb.size)).trans (hb3.mono (Nat.le_trans hb.size hb2.size))⟩
  · obtain ⟨hn, hr, hs, rfl⟩ := h
    rw [hn] at hand
    have HH : Hid (n % 2 = 1 ∧ Fl.cl r = Fl.fmid (Fl.cl a) (Fl.cl b) ∧ Fl.cl s = Fl.fmid (Fl.cl a) (Fl.cl b)) := ⟨hn, hr, hs⟩
    clear hn hr hs
    go_wp2_with fail
    have ha := ax30_lt v (Fl.cl a) (Fl.cl b)
    refine (ZZaxis_any v a b _).mono ?_
    rintro e w2 ⟨rfl, hb2⟩
    generalize hA : (Fl.ax v (Fl.cl a) (Fl.cl b) 30).1 = A at ha ⊢
    have HA : Hid ((Fl.ax v (Fl.cl a) (Fl.cl b) 30).1 = A) := hA
    clear hA
    have hge : (FloatKind.f64.format.order v s == some .gt || FloatKind.f64.format.order v s == some .eq) = Fl.ge v (Fl.cl s) := Fl.ge_cl v s
    cases hg : Fl.ge v (Fl.cl s)
    · rw [hg] at hge
      have HG : Hid (Fl.ge v (Fl.cl s) = false) := hg
      clear hg
      go_wp2_with fail
      have hbl := ax30_lt v (Fl.cl a) (Fl.cl r)
      refine (ZZaxis_any v a r _).mono ?_
      rintro e w3 ⟨rfl, hb3⟩
      generalize hB : (Fl.ax v (Fl.cl a) (Fl.cl r) 30).1 = B at hbl ⊢
      have HB : Hid ((Fl.ax v (Fl.cl a) (Fl.cl r) 30).1 = B) := hB
      clear hB
      have HL : Hid ((A : Int) = (B : Int) / 2) := law_dn HH.out.2.2 HH.out.2.1 HG.out HA.out HB.out
      go_wp2
      go_ret
      exact ⟨ret_bool' (by rw [beq_iff_eq]; exact HL.out), (hb.trans (hb2.mono hb.size)).trans (hb3.mono (Nat.le_trans hb.size hb2.size))⟩
    · rw [hg] at hge
      have HG : Hid (Fl.ge v (Fl.cl s) = true) := hg
      clear hg
      go_wp2_with fail
      have hbl := ax30_lt v (Fl.cl s) (Fl.cl b)
      refine (ZZaxis_any v s b _).mono ?_
      rintro e w3 ⟨rfl, hb3⟩
      generalize hB : (Fl.ax v (Fl.cl s) (Fl.cl b) 30).1 = B at hbl ⊢
      have HB : Hid ((Fl.ax v (Fl.cl s) (Fl.cl b) 30).1 = B) := hB
      clear hB
      have HL : Hid ((A : Int) = bits .or .u64 536870912 ((B : Int) / 2)) := law_up HH.out.2.2 HG.out HA.out HB.out
      go_wp2
      go_ret
      exact ⟨ret_bool' (by rw [beq_iff_eq]; exact HL.out), (hb.trans (hb2.mono hb.size)).trans (hb3.mono (Nat.le_trans hb.size hb2.size))⟩

end Go.Proofs.Qxb6604197a
