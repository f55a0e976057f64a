/-
  THE WALK OF FnHex4ReadsBackFourHexDigits (4).
-/
import Derived.Test.Qxb6604033aHexTable
import Derived.Test.Qxb6604033aCopy
import Derived.Test.Qxb6604033aBytes
import Derived.Laws.BitsAllLaws
namespace Go.Proofs.Qxb6604033a
open Go.RowKit

/-- A tail that is too long: true at once. -/
theorem back_long (r u : Int) (a : Option Addr) (n c : Nat) (w : World) (hn : 1048576 < n) :
    Calls Try.prog 4 #[.int .u16 r, .int .u8 u, .slice a n c] w fun e w' => e = .returned (.bool true) ∧ Below w.heap.size w w' := by
  go_enter Try.func4, Try.ntmps4
  go_wp2_with (go_at_call 11; refine (bytes11_no a n c r u _ hn).mono ?_; rintro e w' ⟨rfl, rfl⟩)
  go_ret
  exact ⟨rfl, Below.refl _ _⟩

theorem made_run4 (n : Nat) (hn : n ≤ 1048576) (w : World) :
    (Instr.makeSlice 22 (.int .i64 (4 + (n : Int))) (.int .i64 (4 + (n : Int)))).run Try.prog w = .ok (.slice (some ⟨w.heap.size, 0, none⟩) (4 + n) (4 + n)) (w.alloc (made (4 + n))) := by
  have h := made_run (4 + n) (by omega) w
  rwa [show ((4 + n : Nat) : Int) = 4 + (n : Int) from by omega] at h

theorem addr_ne {g j k : Nat} (h : k ≠ j) : (⟨g, k, none⟩ : Addr) ≠ ⟨g, j, none⟩ := fun e => h (by injection e)

/-- Block g has N cells, none of them frozen. -/
def Buf (g N : Nat) (wr : World) : Prop := (∀ j, j < N → ∃ v, wr.cell? ⟨g, j, none⟩ = some v) ∧ ∀ j, wr.frozen? ⟨g, j, none⟩ = false

theorem Buf.set {g N : Nat} {wr : World} (h : Buf g N wr) (k : Nat) (u : Value) : Buf g N (wr.setCell ⟨g, k, none⟩ u) := by
  refine ⟨fun j hj => ?_, fun j => ?_⟩
  · by_cases e : j = k
    · subst e
      obtain ⟨v, hv⟩ := h.1 j hj
      exact ⟨u, World.cell?_setCell_same _ _ _ hv⟩
    · obtain ⟨v, hv⟩ := h.1 j hj
      exact ⟨v, by rw [World.cell?_setCell_other _ _ _ _ (addr_ne (by omega))]; exact hv⟩
  · rw [World.frozen?_setCell]; exact h.2 j

theorem Buf.made (N : Nat) (w : World) : Buf w.heap.size N (w.alloc (made N)) := by
  have hg : (w.alloc (Qxb6604033a.made N)).heap[w.heap.size]? = some (.cells (madeCells #[.int .u8 0] N) 5 (0, 0)) := by
    show (w.heap.push _)[w.heap.size]? = _
    simp [Qxb6604033a.made]
  refine ⟨fun j hj => ?_, fun j => ?_⟩
  · refine ⟨(madeCells #[.int .u8 0] N)[j]'(by rw [size_madeCells]; exact hj), ?_⟩
    unfold World.cell?
    rw [hg]
    simp [size_madeCells, hj]
  · unfold World.frozen?
    rw [hg]
    simp

theorem and15 (X : Nat) (h : X < 65536) : bits .and .u16 (X : Int) 15 = ((X % 16 : Nat) : Int) := by
  have e := u16_and_nat X 15 h (by omega)
  rw [show (15 : Nat) = 2 ^ 4 - 1 from rfl, Nat.and_two_pow_sub_one_eq_mod] at e
  exact e
theorem and1 (X : Nat) (h : X < 256) : bits .and .u8 (X : Int) 1 = ((X % 2 : Nat) : Int) := by
  have e := u8_and_nat X 1 h (by omega)
  rw [Nat.and_one_is_mod] at e
  exact e

theorem nib0 (R : Nat) (h : R < 65536) : bits .and .u16 ((R : Int) / 4096) 15 = (Qb33.nib R 0 : Nat) := by
  have e := and15 (R / 4096) (by omega)
  rwa [show ((R / 4096 : Nat) : Int) = (R : Int) / 4096 from by omega] at e
theorem nib1 (R : Nat) (h : R < 65536) : bits .and .u16 ((R : Int) / 256) 15 = (Qb33.nib R 1 : Nat) := by
  have e := and15 (R / 256) (by omega)
  rwa [show ((R / 256 : Nat) : Int) = (R : Int) / 256 from by omega] at e
theorem nib2 (R : Nat) (h : R < 65536) : bits .and .u16 ((R : Int) / 16) 15 = (Qb33.nib R 2 : Nat) := by
  have e := and15 (R / 16) (by omega)
  rwa [show ((R / 16 : Nat) : Int) = (R : Int) / 16 from by omega] at e
theorem nib3 (R : Nat) (h : R < 65536) : bits .and .u16 (R : Int) 15 = (Qb33.nib R 3 : Nat) := by
  have e := and15 R h
  rw [e]
  simp [Qb33.nib]
theorem bit0 (U : Nat) (h : U < 256) : bits .and .u8 (U : Int) 1 = ((U / 2 ^ 0 % 2 : Nat) : Int) := by
  rw [and1 U h]; simp
theorem bit1 (U : Nat) (h : U < 256) : bits .and .u8 ((U : Int) / 2) 1 = ((U / 2 ^ 1 % 2 : Nat) : Int) := by
  have e := and1 (U / 2) (by omega)
  rwa [show ((U / 2 : Nat) : Int) = (U : Int) / 2 from by omega] at e
theorem bit2 (U : Nat) (h : U < 256) : bits .and .u8 ((U : Int) / 4) 1 = ((U / 2 ^ 2 % 2 : Nat) : Int) := by
  have e := and1 (U / 4) (by omega)
  rwa [show ((U / 4 : Nat) : Int) = (U : Int) / 4 from by omega] at e
theorem bit3 (U : Nat) (h : U < 256) : bits .and .u8 ((U : Int) / 8) 1 = ((U / 2 ^ 3 % 2 : Nat) : Int) := by
  have e := and1 (U / 8) (by omega)
  rwa [show ((U / 8 : Nat) : Int) = (U : Int) / 8 from by omega] at e

/-- What the first loop keeps: k of the four digits are written. -/
def Written (R U g N k : Nat) (w wr : World) : Prop :=
  Buf g N wr ∧ (∀ j, j < k → wr.cell? ⟨g, j, none⟩ = some (.int .u8 (Qb33.hb R U j))) ∧ Below g w wr

theorem Written.next {R U g N k : Nat} {w wr : World} (h : Written R U g N k w wr) (hk : k < N) {v : Int} (hv : v = Qb33.hb R U k) :
    Written R U g N (k + 1) w (wr.setCell ⟨g, k, none⟩ (.int .u8 v)) := by
  subst hv
  refine ⟨h.1.set k _, fun j hj => ?_, h.2.2.setCell (Nat.le_refl _) _⟩
  by_cases e : j = k
  · subst e
    obtain ⟨o, ho⟩ := h.1.1 j hk
    exact World.cell?_setCell_same _ _ _ ho
  · rw [World.cell?_setCell_other _ _ _ _ (addr_ne (by omega))]
    exact h.2.1 j (by omega)

/-- .. and stay written while cells behind them are set. -/
theorem Written.behind {R U g N k q : Nat} {w wr : World} (h : Written R U g N k w wr) (hq : k ≤ q) (v : Value) :
    Written R U g N k w (wr.setCell ⟨g, q, none⟩ v) := by
  refine ⟨h.1.set q _, fun j hj => ?_, h.2.2.setCell (Nat.le_refl _) _⟩
  rw [World.cell?_setCell_other _ _ _ _ (addr_ne (by omega))]
  exact h.2.1 j hj

set_option maxHeartbeats 1000000 in
theorem back_any (R U : Nat) (b off n c : Nat) (z : Nat → Int) (w : World) (hR : R < 65536) (hU : U < 256) (hn : n ≤ 1048576)
    (hc : ∀ k, k < n → w.cell? ⟨b, off + k, none⟩ = some (.int .u8 (z k))) (hbl : 0 < n → b < w.heap.size) :
    Calls Try.prog 4 #[.int .u16 R, .int .u8 U, .slice (some ⟨b, off, none⟩) n c] w fun e w' => e = .returned (.bool true) ∧ Below w.heap.size w w' := by
  have h1 : ¬ (1048576 : Int) < (n : Int) := by omega
  have hmk := made_run4 n hn
  have hW0 : Hid (Written R U w.heap.size (4 + n) 0 w (w.alloc (made (4 + n)))) := ⟨Buf.made (4 + n) w, fun j hj => by omega, (Below.refl _ _).alloc (Nat.le_refl _) _⟩
  have HC : Hid (∀ k, k < n → w.cell? ⟨b, off + k, none⟩ = some (.int .u8 (z k))) := hc
  clear hc
  have HX : Hid (Qb33.hexTo (Qb33.hb R U) 4 = some (R : Int)) := Qb33.hex_back _ R U hR (fun _ _ => rfl)
  go_enter Try.func4, Try.ntmps4
  go_wp2_with (go_at_call 11; refine (bytes11_yes (some ⟨b, off, none⟩) n c R U _ (by omega)).mono ?_; rintro e w' ⟨rfl, rfl⟩)
  go_loopw [8] (fun t wr => ∃ k : Nat, k ≤ 4 ∧ t = .int .i64 k ∧ Written R U w.heap.size (4 + n) k w wr) (fun t _ => 4 - (intOf t).toNat)
  case atStart => exact ⟨0, by omega, rfl, hW0.out⟩
  case round =>
    obtain ⟨k, hk, rfl, hw⟩ := hrel
    have HW : Hid (Written R U w.heap.size (4 + n) k w wr) := hw
    clear hw
    by_cases hlt : k < 4
    · obtain rfl | rfl | rfl | rfl : k = 0 ∨ k = 1 ∨ k = 2 ∨ k = 3 := by omega
      · have hN := nib0 R hR
        have hB := bit0 U hU
        have hv := Qb33.nib_lt R 0
        generalize hnb : Qb33.nib R 0 = v at hN hv
        have HN : Hid (Qb33.nib R 0 = v) := hnb
        clear hnb
        have hl := low_byte v hv
        have hu := upp_byte v hv
        obtain ⟨old, hold⟩ := HW.out.1.1 0 (by omega)
        have hfz := HW.out.1.2 0
        by_cases hb : U / 2 ^ 0 % 2 = 1
        · have HV : Hid (Qb33.upp v = Qb33.hb R U 0) := by show _ = _; unfold Qb33.hb; rw [if_pos hb, HN.out]
          rw [hb] at hB
          clear hb
          go_wp2
          go_roundw
          case rel => exact ⟨1, by omega, by rfl, HW.out.next (by omega) HV.out⟩
          case measure => simp [intOf]
        · have HV : Hid (Qb33.low v = Qb33.hb R U 0) := by show _ = _; unfold Qb33.hb; rw [if_neg hb, HN.out]
          rw [show U / 2 ^ 0 % 2 = 0 from by omega] at hB
          clear hb
          go_wp2
          go_roundw
          case rel => exact ⟨1, by omega, by rfl, HW.out.next (by omega) HV.out⟩
          case measure => simp [intOf]
      · have hN := nib1 R hR
        have hB := bit1 U hU
        have hv := Qb33.nib_lt R 1
        generalize hnb : Qb33.nib R 1 = v at hN hv
        have HN : Hid (Qb33.nib R 1 = v) := hnb
        clear hnb
        have hl := low_byte v hv
        have hu := upp_byte v hv
        obtain ⟨old, hold⟩ := HW.out.1.1 1 (by omega)
        have hfz := HW.out.1.2 1
        by_cases hb : U / 2 ^ 1 % 2 = 1
        · have HV : Hid (Qb33.upp v = Qb33.hb R U 1) := by show _ = _; unfold Qb33.hb; rw [if_pos hb, HN.out]
          rw [hb] at hB
          clear hb
          go_wp2
          go_roundw
          case rel => exact ⟨2, by omega, by rfl, HW.out.next (by omega) HV.out⟩
          case measure => simp [intOf]
        · have HV : Hid (Qb33.low v = Qb33.hb R U 1) := by show _ = _; unfold Qb33.hb; rw [if_neg hb, HN.out]
          rw [show U / 2 ^ 1 % 2 = 0 from by omega] at hB
          clear hb
          go_wp2
          go_roundw
          case rel => exact ⟨2, by omega, by rfl, HW.out.next (by omega) HV.out⟩
          case measure => simp [intOf]
      · have hN := nib2 R hR
        have hB := bit2 U hU
        have hv := Qb33.nib_lt R 2
        generalize hnb : Qb33.nib R 2 = v at hN hv
        have HN : Hid (Qb33.nib R 2 = v) := hnb
        clear hnb
        have hl := low_byte v hv
        have hu := upp_byte v hv
        obtain ⟨old, hold⟩ := HW.out.1.1 2 (by omega)
        have hfz := HW.out.1.2 2
        by_cases hb : U / 2 ^ 2 % 2 = 1
        · have HV : Hid (Qb33.upp v = Qb33.hb R U 2) := by show _ = _; unfold Qb33.hb; rw [if_pos hb, HN.out]
          rw [hb] at hB
          clear hb
          go_wp2
          go_roundw
          case rel => exact ⟨3, by omega, by rfl, HW.out.next (by omega) HV.out⟩
          case measure => simp [intOf]
        · have HV : Hid (Qb33.low v = Qb33.hb R U 2) := by show _ = _; unfold Qb33.hb; rw [if_neg hb, HN.out]
          rw [show U / 2 ^ 2 % 2 = 0 from by omega] at hB
          clear hb
          go_wp2
          go_roundw
          case rel => exact ⟨3, by omega, by rfl, HW.out.next (by omega) HV.out⟩
          case measure => simp [intOf]
      · have hN := nib3 R hR
        have hB := bit3 U hU
        have hv := Qb33.nib_lt R 3
        generalize hnb : Qb33.nib R 3 = v at hN hv
        have HN : Hid (Qb33.nib R 3 = v) := hnb
        clear hnb
        have hl := low_byte v hv
        have hu := upp_byte v hv
        obtain ⟨old, hold⟩ := HW.out.1.1 3 (by omega)
        have hfz := HW.out.1.2 3
        by_cases hb : U / 2 ^ 3 % 2 = 1
        · have HV : Hid (Qb33.upp v = Qb33.hb R U 3) := by show _ = _; unfold Qb33.hb; rw [if_pos hb, HN.out]
          rw [hb] at hB
          clear hb
          go_wp2
          go_roundw
          case rel => exact ⟨4, by omega, by rfl, HW.out.next (by omega) HV.out⟩
          case measure => simp [intOf]
        · have HV : Hid (Qb33.low v = Qb33.hb R U 3) := by show _ = _; unfold Qb33.hb; rw [if_neg hb, HN.out]
          rw [show U / 2 ^ 3 % 2 = 0 from by omega] at hB
          clear hb
          go_wp2
          go_roundw
          case rel => exact ⟨4, by omega, by rfl, HW.out.next (by omega) HV.out⟩
          case measure => simp [intOf]
    · obtain rfl : k = 4 := by omega
      clear hlt
      go_wp2
      go_loopw [10] (fun t wq => ∃ j : Nat, j ≤ n ∧ t = .int .i64 j ∧ Written R U w.heap.size (4 + n) 4 w wq) (fun t _ => n - (intOf t).toNat)
      case atStart => exact ⟨0, by omega, rfl, HW.out⟩
      case round =>
        obtain ⟨j, hj, rfl, hq⟩ := hrel
        have HQ : Hid (Written R U w.heap.size (4 + n) 4 w wr) := hq
        clear hq
        by_cases hlt : j < n
        · have hcj : wr.cell? ⟨b, off + j, none⟩ = some (.int .u8 (z j)) := by
            rw [HQ.out.2.2.cell (p := ⟨b, off + j, none⟩) (hbl (by omega))]
            exact HC.out j hlt
          obtain ⟨old, hold⟩ := HQ.out.1.1 (4 + j) (by omega)
          have hfz := HQ.out.1.2 (4 + j)
          go_wp2
          go_roundw
          case rel => exact ⟨j + 1, by omega, by go_num, HQ.out.behind (by omega) _⟩
          case measure => simp [intOf]; omega
        · have HR : Hid (Qb33.hexR (Qb33.hb R U) = (R : Int)) := by show _ = _; simp [Qb33.hexR, HX.out]
          have HO : Hid (Qb33.hexOK (Qb33.hb R U) = true) := by show _ = _; simp [Qb33.hexOK, HX.out]
          have HC4 : Hid (∀ k, k < 4 → wr.cell? ⟨w.heap.size, 0 + k, none⟩ = some (.int .u8 (Qb33.hb R U k))) := fun k hk => by rw [Nat.zero_add]; exact HQ.out.2.1 k hk
          go_wp2_with (go_at_call 9; refine (ZZhex_any w.heap.size 0 (4 + n) (4 + n) (Qb33.hb R U) _ (by omega) (by omega) (Nat.le_refl _) (Qb33.hb_bd R U) HC4.out).mono ?_; rintro e w' ⟨rfl, rfl⟩; rw [HR.out, HO.out])
          go_ret
          exact ⟨by simp, HQ.out.2.2⟩

set_option maxHeartbeats 1000000 in
theorem back_none (R U : Nat) (a : Option Addr) (c : Nat) (w : World) (hR : R < 65536) (hU : U < 256) :
    Calls Try.prog 4 #[.int .u16 R, .int .u8 U, .slice a 0 c] w fun e w' => e = .returned (.bool true) ∧ Below w.heap.size w w' := by
  have hmk : ∀ w : World, (Instr.makeSlice 22 (.int .i64 4) (.int .i64 4)).run Try.prog w = .ok (.slice (some ⟨w.heap.size, 0, none⟩) 4 4) (w.alloc (made 4)) := fun w => made_run 4 (by omega) w
  have hW0 : Hid (Written R U w.heap.size 4 0 w (w.alloc (made 4))) := ⟨Buf.made 4 w, fun j hj => by omega, (Below.refl _ _).alloc (Nat.le_refl _) _⟩
  have HX : Hid (Qb33.hexTo (Qb33.hb R U) 4 = some (R : Int)) := Qb33.hex_back _ R U hR (fun _ _ => rfl)
  go_enter Try.func4, Try.ntmps4
  go_wp2_with (go_at_call 11; refine (bytes11_yes a 0 c R U _ (by omega)).mono ?_; rintro e w' ⟨rfl, rfl⟩)
  go_loopw [8] (fun t wr => ∃ k : Nat, k ≤ 4 ∧ t = .int .i64 k ∧ Written R U w.heap.size 4 k w wr) (fun t _ => 4 - (intOf t).toNat)
  case atStart => exact ⟨0, by omega, rfl, hW0.out⟩
  case round =>
    obtain ⟨k, hk, rfl, hw⟩ := hrel
    have HW : Hid (Written R U w.heap.size 4 k w wr) := hw
    clear hw
    by_cases hlt : k < 4
    · obtain rfl | rfl | rfl | rfl : k = 0 ∨ k = 1 ∨ k = 2 ∨ k = 3 := by omega
      · have hN := nib0 R hR
        have hB := bit0 U hU
        have hv := Qb33.nib_lt R 0
        generalize hnb : Qb33.nib R 0 = v at hN hv
        have HN : Hid (Qb33.nib R 0 = v) := hnb
        clear hnb
        have hl := low_byte v hv
        have hu := upp_byte v hv
        obtain ⟨old, hold⟩ := HW.out.1.1 0 (by omega)
        have hfz := HW.out.1.2 0
        by_cases hb : U / 2 ^ 0 % 2 = 1
        · have HV : Hid (Qb33.upp v = Qb33.hb R U 0) := by show _ = _; unfold Qb33.hb; rw [if_pos hb, HN.out]
          rw [hb] at hB
          clear hb
          go_wp2
          go_roundw
          case rel => exact ⟨1, by omega, by rfl, HW.out.next (by omega) HV.out⟩
          case measure => simp [intOf]
        · have HV : Hid (Qb33.low v = Qb33.hb R U 0) := by show _ = _; unfold Qb33.hb; rw [if_neg hb, HN.out]
          rw [show U / 2 ^ 0 % 2 = 0 from by omega] at hB
          clear hb
          go_wp2
          go_roundw
          case rel => exact ⟨1, by omega, by rfl, HW.out.next (by omega) HV.out⟩
          case measure => simp [intOf]
      · have hN := nib1 R hR
        have hB := bit1 U hU
        have hv := Qb33.nib_lt R 1
        generalize hnb : Qb33.nib R 1 = v at hN hv
        have HN : Hid (Qb33.nib R 1 = v) := hnb
        clear hnb
        have hl := low_byte v hv
        have hu := upp_byte v hv
        obtain ⟨old, hold⟩ := HW.out.1.1 1 (by omega)
        have hfz := HW.out.1.2 1
        by_cases hb : U / 2 ^ 1 % 2 = 1
        · have HV : Hid (Qb33.upp v = Qb33.hb R U 1) := by show _ = _; unfold Qb33.hb; rw [if_pos hb, HN.out]
          rw [hb] at hB
          clear hb
          go_wp2
          go_roundw
          case rel => exact ⟨2, by omega, by rfl, HW.out.next (by omega) HV.out⟩
          case measure => simp [intOf]
        · have HV : Hid (Qb33.low v = Qb33.hb R U 1) := by show _ = _; unfold Qb33.hb; rw [if_neg hb, HN.out]
          rw [show U / 2 ^ 1 % 2 = 0 from by omega] at hB
          clear hb
          go_wp2
          go_roundw
          case rel => exact ⟨2, by omega, by rfl, HW.out.next (by omega) HV.out⟩
          case measure => simp [intOf]
      · have hN := nib2 R hR
        have hB := bit2 U hU
        have hv := Qb33.nib_lt R 2
        generalize hnb : Qb33.nib R 2 = v at hN hv
        have HN : Hid (Qb33.nib R 2 = v) := hnb
        clear hnb
        have hl := low_byte v hv
        have hu := upp_byte v hv
        obtain ⟨old, hold⟩ := HW.out.1.1 2 (by omega)
        have hfz := HW.out.1.2 2
        by_cases hb : U / 2 ^ 2 % 2 = 1
        · have HV : Hid (Qb33.upp v = Qb33.hb R U 2) := by show _ = _; unfold Qb33.hb; rw [if_pos hb, HN.out]
          rw [hb] at hB
          clear hb
          go_wp2
          go_roundw
          case rel => exact ⟨3, by omega, by rfl, HW.out.next (by omega) HV.out⟩
          case measure => simp [intOf]
        · have HV : Hid (Qb33.low v = Qb33.hb R U 2) := by show _ = _; unfold Qb33.hb; rw [if_neg hb, HN.out]
          rw [show U / 2 ^ 2 % 2 = 0 from by omega] at hB
          clear hb
          go_wp2
          go_roundw
          case rel => exact ⟨3, by omega, by rfl, HW.out.next (by omega) HV.out⟩
          case measure => simp [intOf]
      · have hN := nib3 R hR
        have hB := bit3 U hU
        have hv := Qb33.nib_lt R 3
        generalize hnb : Qb33.nib R 3 = v at hN hv
        have HN : Hid (Qb33.nib R 3 = v) := hnb
        clear hnb
        have hl := low_byte v hv
        have hu := upp_byte v hv
        obtain ⟨old, hold⟩ := HW.out.1.1 3 (by omega)
        have hfz := HW.out.1.2 3
        by_cases hb : U / 2 ^ 3 % 2 = 1
        · have HV : Hid (Qb33.upp v = Qb33.hb R U 3) := by show _ = _; unfold Qb33.hb; rw [if_pos hb, HN.out]
          rw [hb] at hB
          clear hb
          go_wp2
          go_roundw
          case rel => exact ⟨4, by omega, by rfl, HW.out.next (by omega) HV.out⟩
          case measure => simp [intOf]
        · have HV : Hid (Qb33.low v = Qb33.hb R U 3) := by show _ = _; unfold Qb33.hb; rw [if_neg hb, HN.out]
          rw [show U / 2 ^ 3 % 2 = 0 from by omega] at hB
          clear hb
          go_wp2
          go_roundw
          case rel => exact ⟨4, by omega, by rfl, HW.out.next (by omega) HV.out⟩
          case measure => simp [intOf]
    · obtain rfl : k = 4 := by omega
      clear hlt
      go_wp2
      go_loopw [10] (fun t wq => t = .int .i64 0 ∧ Written R U w.heap.size 4 4 w wq) (fun _ _ => 0)
      case atStart => exact ⟨rfl, HW.out⟩
      case round =>
        obtain ⟨rfl, hq⟩ := hrel
        have HQ : Hid (Written R U w.heap.size 4 4 w wr) := hq
        clear hq
        have HR : Hid (Qb33.hexR (Qb33.hb R U) = (R : Int)) := by show _ = _; simp [Qb33.hexR, HX.out]
        have HO : Hid (Qb33.hexOK (Qb33.hb R U) = true) := by show _ = _; simp [Qb33.hexOK, HX.out]
        have HC4 : Hid (∀ k, k < 4 → wr.cell? ⟨w.heap.size, 0 + k, none⟩ = some (.int .u8 (Qb33.hb R U k))) := fun k hk => by rw [Nat.zero_add]; exact HQ.out.2.1 k hk
        go_wp2_with (go_at_call 9; refine (ZZhex_any w.heap.size 0 4 4 (Qb33.hb R U) _ (by omega) (by omega) (Nat.le_refl _) (Qb33.hb_bd R U) HC4.out).mono ?_; rintro e w' ⟨rfl, rfl⟩; rw [HR.out, HO.out])
        go_ret
        exact ⟨by simp, HQ.out.2.2⟩

end Go.Proofs.Qxb6604033a
