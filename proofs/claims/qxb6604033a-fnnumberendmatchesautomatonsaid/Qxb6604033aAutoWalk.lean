/-
  THE WALK OF FnNumberEndMatchesAutomaton (5).
-/
import Derived.Test.Qxb6604033aNumCalls
import Derived.Test.Qxb6604033aCopy
import Derived.Test.Qxb6604033aBytes
import Derived.Test.Qxb6604033aStep
namespace Go.Proofs.Qxb6604033a
open Go.RowKit

/-- A slice that is too long: true at once. -/
theorem auto_long (a : Option Addr) (n c : Nat) (i : Int) (w : World) (hn : 1048576 < n) :
    Calls Try.prog 5 #[.slice a n c, .int .i64 i] w fun e w' => e = .returned (.bool true) ∧ Below w.heap.size w w' := by
  go_enter Try.func5, Try.ntmps5
  go_wp2_with (go_at_call 12; refine (bytes12_no a n c i _ hn).mono ?_; rintro e w' ⟨rfl, rfl⟩)
  go_ret
  exact ⟨rfl, Below.refl _ _⟩

/-- A start below 0: true at once. -/
theorem auto_neg (a : Option Addr) (n c : Nat) (i : Int) (w : World) (hn : n ≤ 1048576) (hi : i < 0) :
    Calls Try.prog 5 #[.slice a n c, .int .i64 i] w fun e w' => e = .returned (.bool true) ∧ Below w.heap.size w w' := by
  have h1 : ¬ (1048576 : Int) < (n : Int) := by omega
  go_enter Try.func5, Try.ntmps5
  go_wp2_with (go_at_call 12; refine (bytes12_yes a n c i _ hn).mono ?_; rintro e w' ⟨rfl, rfl⟩)
  go_ret
  exact ⟨rfl, Below.refl _ _⟩

set_option maxHeartbeats 400000 in
/-- The nil slice. -/
theorem auto_nil (i : Nat) (w : World) (hi : i ≤ 9223372036854775807) :
    Calls Try.prog 5 #[.slice none 0 0, .int .i64 i] w fun e w' => e = .returned (.bool true) ∧ Below w.heap.size w w' := by
  have h2 : ¬ (i : Int) < 0 := by omega
  have hne := fun w => run_neq_slice_nil_any (P := Try.prog) w 22 5 none 0 0 0 0 Try.underlying22
  go_enter Try.func5, Try.ntmps5
  go_wp2_with (go_at_call 12; refine (bytes12_yes none 0 0 i _ (by omega)).mono ?_; rintro e w' ⟨rfl, rfl⟩)
  go_loop [6, 7] (fun s p => s = .int .i64 0 ∧ p = .int .i64 i) (fun _ _ => 0)
  case atStart => exact ⟨rfl, rfl⟩
  case round =>
    obtain ⟨rfl, rfl⟩ := hrel
    go_wp2_with (first | (go_at_call 14; refine (accepting_0 _).mono ?_; rintro e w' ⟨rfl, rfl⟩) | (go_at_call 15; refine (ZZ_nil i _ hi).mono ?_; rintro e w' ⟨rfl, rfl⟩))
    go_ret
    exact ⟨rfl, Below.refl _ _⟩

theorem res_acc {z : Nat → Int} {n i s p : Nat} (h : Qb33.aut z n 0 i = (s, p)) (ha : Qb33.acc s = true) : Qb33.res (Qb33.nEnd z n i) = (p : Int) := by
  rw [← Qb33.E0, Qb33.E, h, Qb33.fin, ha]; rfl
theorem res_not {z : Nat → Int} {n i s p : Nat} (h : Qb33.aut z n 0 i = (s, p)) (ha : Qb33.acc s = false) : Qb33.res (Qb33.nEnd z n i) = -1 := by
  rw [← Qb33.E0, Qb33.E, h, Qb33.fin, ha]; rfl
theorem res_none : Qb33.res none = -1 := rfl
theorem res_some (t : Nat) : Qb33.res (some t) = (t : Int) := rfl

set_option maxHeartbeats 1000000 in
theorem auto_any (x : Addr) (n c : Nat) (z : Nat → Int) (i : Nat) (w : World) (hn : n ≤ 1048576) (hi : i ≤ 9223372036854775807)
    (hz : ∀ k, 0 ≤ z k ∧ z k ≤ 255) (hsrc : ∀ k, k < n → w.cell? (x.add k) = some (.int .u8 (z k))) :
    Calls Try.prog 5 #[.slice (some x) n c, .int .i64 i] w fun e w' => e = .returned (.bool true) ∧ Below w.heap.size w w' := by
  have h1 : ¬ (1048576 : Int) < (n : Int) := by omega
  have h2 : ¬ (i : Int) < 0 := by omega
  have hmk := made_run n (by omega)
  have hne := fun w => run_neq_slice_nil_any (P := Try.prog) w 22 5 (some x) n c 0 0 Try.underlying22
  obtain ⟨w2, hcp, hc2, hb2⟩ := copied x n c z w hsrc
  have HC : Hid (∀ k, k < n → w2.cell? ⟨w.heap.size, 0 + k, none⟩ = some (.int .u8 (z k))) := fun k hk => by rw [Nat.zero_add]; exact hc2 k hk
  have HC2 : Hid (∀ k, k < n → w2.cell? ⟨w.heap.size, k, none⟩ = some (.int .u8 (z k))) := hc2
  clear hc2 hsrc
  go_enter Try.func5, Try.ntmps5
  go_wp2_with (go_at_call 12; refine (bytes12_yes (some x) n c i _ hn).mono ?_; rintro e w' ⟨rfl, rfl⟩)
  go_loop [6, 7] (fun t u => ∃ s p : Nat, s ≤ 8 ∧ i ≤ p ∧ (p = i ∨ p ≤ n) ∧ t = .int .i64 s ∧ u = .int .i64 p ∧ Qb33.aut z n 0 i = Qb33.aut z n s p) (fun _ u => n - (intOf u).toNat)
  case atStart => exact ⟨0, i, by omega, by omega, .inl rfl, rfl, rfl, rfl⟩
  case round =>
    obtain ⟨s, p, hs, hip, hpn, rfl, rfl, he⟩ := hrel
    have HE : Hid (Qb33.aut z n 0 i = Qb33.aut z n s p) := he
    clear he
    by_cases hlt : p < n
    · have hcp2 := HC2.out p hlt
      have hzp := hz p
      cases hst : Qb33.step s (z p) with
      | none =>
        have HF : Hid (Qb33.aut z n 0 i = (s, p)) := HE.out.trans (Qb33.aut_stop hst)
        have HS : Hid (Qb33.step s (z p) = none) := hst
        clear hst
        cases ha : Qb33.acc s
        · have HA : Hid (Qb33.acc s = false) := ha
          have HR : Hid (Qb33.res (Qb33.nEnd z n i) = (-1)) := res_not HF.out ha
          clear ha
          go_wp2_with (first | (go_at_call 13; refine (numStep_any s hs (z p) _ hzp).mono ?_; rintro e w' ⟨rfl, rfl⟩; rw [HS.out, res_none]) | (go_at_call 14; refine (accepting_any s hs _).mono ?_; rintro e w' ⟨rfl, rfl⟩; rw [HA.out]) | (go_at_call 15; refine (ZZ_at w.heap.size 0 n n z i (-1) HR _ _ hn hi hz HC.out rfl).mono ?_; rintro e w' ⟨rfl, rfl⟩))
          go_ret
          exact ⟨by simp, hb2⟩
        · have HA : Hid (Qb33.acc s = true) := ha
          have HR : Hid (Qb33.res (Qb33.nEnd z n i) = p) := res_acc HF.out ha
          clear ha
          go_wp2_with (first | (go_at_call 13; refine (numStep_any s hs (z p) _ hzp).mono ?_; rintro e w' ⟨rfl, rfl⟩; rw [HS.out, res_none]) | (go_at_call 14; refine (accepting_any s hs _).mono ?_; rintro e w' ⟨rfl, rfl⟩; rw [HA.out]) | (go_at_call 15; refine (ZZ_at w.heap.size 0 n n z i p HR _ _ hn hi hz HC.out rfl).mono ?_; rintro e w' ⟨rfl, rfl⟩))
          go_ret
          exact ⟨by simp, hb2⟩
      | some t =>
        have HS : Hid (Qb33.step s (z p) = some t) := hst
        clear hst
        go_wp2_with (go_at_call 13; refine (numStep_any s hs (z p) _ hzp).mono ?_; rintro e w' ⟨rfl, rfl⟩; rw [HS.out, res_some])
        go_round
        case rel => exact ⟨t, p + 1, Qb33.step_lt HS.out, by omega, .inr (by omega), rfl, by go_num, by rw [HE.out]; exact Qb33.aut_step hlt HS.out⟩
        case measure => simp [intOf]; omega
    · have HF : Hid (Qb33.aut z n 0 i = (s, p)) := HE.out.trans (Qb33.aut_out hlt)
      cases ha : Qb33.acc s
      · have HA : Hid (Qb33.acc s = false) := ha
        have HR : Hid (Qb33.res (Qb33.nEnd z n i) = (-1)) := res_not HF.out ha
        clear ha
        go_wp2_with (first | (go_at_call 14; refine (accepting_any s hs _).mono ?_; rintro e w' ⟨rfl, rfl⟩; rw [HA.out]) | (go_at_call 15; refine (ZZ_at w.heap.size 0 n n z i (-1) HR _ _ hn hi hz HC.out rfl).mono ?_; rintro e w' ⟨rfl, rfl⟩))
        go_ret
        exact ⟨by simp, hb2⟩
      · have HA : Hid (Qb33.acc s = true) := ha
        have HR : Hid (Qb33.res (Qb33.nEnd z n i) = p) := res_acc HF.out ha
        clear ha
        go_wp2_with (first | (go_at_call 14; refine (accepting_any s hs _).mono ?_; rintro e w' ⟨rfl, rfl⟩; rw [HA.out]) | (go_at_call 15; refine (ZZ_at w.heap.size 0 n n z i p HR _ _ hn hi hz HC.out rfl).mono ?_; rintro e w' ⟨rfl, rfl⟩))
        go_ret
        exact ⟨by simp, hb2⟩

end Go.Proofs.Qxb6604033a
