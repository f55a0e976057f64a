/-
  THE WALKS OF hex4 (18), ZZhex4 (9), hexDigitValue (10).
-/
import Derived.Test.Qxb6604033aRows
import Derived.Test.Qxb6604033aHexPlain
import Derived.WalkKit
import Derived.WalkSpells
import Derived.WalkLawsBesides
import Derived.Laws.BitsAllLaws
namespace Go.Proofs.Qxb6604033a
open Go.RowKit

/-- 'r<<4 | d' on an int32, d below 16. -/
theorem i32_or4 (r d : Int) (h0 : 0 ≤ r) (h1 : r < 4096) (h2 : 0 ≤ d) (h3 : d < 16) : bits .or .i32 (r * 16) d = r * 16 + d := by
  obtain ⟨A, rfl⟩ := Int.eq_ofNat_of_zero_le h0
  obtain ⟨B, rfl⟩ := Int.eq_ofNat_of_zero_le h2
  have e : ((A : Int) * 16) = ((A * 16 : Nat) : Int) := by omega
  have o : A * 16 ||| B = A * 16 + B := nat_join 4 (A * 16) B (by omega) (by omega)
  show IntKind.i32.wrap ((BitVec.ofInt 32 ((A : Int) * 16) ||| BitVec.ofInt 32 (B : Int)).toNat : Int) = _
  rw [BitVec.toNat_or, e, ofInt_u32 (A * 16) (by omega), ofInt_u32 B (by omega), o]
  rw [IntKind.wrap_i32]
  omega

/-- Fewer than four bytes: (0, false). -/
theorem hex4_short (a : Option Addr) (n c : Nat) (w : World) (hn : n < 4) :
    Calls Try.prog 18 #[.slice a n c] w fun e w' => e = .returned (.tuple #[.int .i32 0, .bool false]) ∧ w = w' := by
  have h1 : (n : Int) < 4 := by omega
  go_enter Try.func18, Try.ntmps18
  go_wp2
  go_ret2
  exact ⟨rfl, rfl⟩

theorem hex_no {z : Nat → Int} (h : Qb33.hexTo z 4 = none) : Ending.returned (.tuple #[.int .i32 0, .bool false]) = .returned (.tuple #[.int .i32 (Qb33.hexR z), .bool (Qb33.hexOK z)]) := by
  simp [Qb33.hexR, Qb33.hexOK, h]
theorem hex_yes {z : Nat → Int} {r : Int} (h : Qb33.hexTo z 4 = some r) : Ending.returned (.tuple #[.int .i32 r, .bool true]) = .returned (.tuple #[.int .i32 (Qb33.hexR z), .bool (Qb33.hexOK z)]) := by
  simp [Qb33.hexR, Qb33.hexOK, h]

set_option maxHeartbeats 1000000 in
theorem hex4_any (b off n c : Nat) (z : Nat → Int) (w : World) (hn : 4 ≤ n) (hn2 : n ≤ 2000000) (hcap : n ≤ c)
    (hz : ∀ k, 0 ≤ z k ∧ z k ≤ 255) (hc : ∀ k, k < 4 → w.cell? ⟨b, off + k, none⟩ = some (.int .u8 (z k))) :
    Calls Try.prog 18 #[.slice (some ⟨b, off, none⟩) n c] w fun e w' => e = .returned (.tuple #[.int .i32 (Qb33.hexR z), .bool (Qb33.hexOK z)]) ∧ w = w' := by
  have h1 : ¬ (n : Int) < 4 := by omega
  go_enter Try.func18, Try.ntmps18
  go_wp2
  go_loop [4, 13] (fun t u => ∃ k : Nat, ∃ r : Int, k ≤ 4 ∧ u = .int .i64 k ∧ t = .int .i32 r ∧ Qb33.hexTo z k = some r) (fun _ u => 4 - (intOf u).toNat)
  case atStart => exact ⟨0, 0, by omega, rfl, rfl, rfl⟩
  case round =>
    obtain ⟨k, r, hk, rfl, rfl, hr⟩ := hrel
    have HR : Hid (Qb33.hexTo z k = some r) := hr
    have hrb := Qb33.hexTo_bd hr
    clear hr
    by_cases hlt : k < 4
    · have hck := hc k hlt
      have hzk := hz k
      have hp : r < 4096 := by
        match k, hlt, hrb with
        | 0, _, h => simp at h; omega
        | 1, _, h => simp at h; omega
        | 2, _, h => simp at h; omega
        | 3, _, h => simp at h; omega
      have hr0 : 0 ≤ r := hrb.1
      clear hrb
      by_cases hd : 48 ≤ z k ∧ z k ≤ 57
      · have hv : Hid (Qb33.hv (z k) = some (z k - 48)) := by show _ = _; unfold Qb33.hv; rw [if_pos hd]
        obtain ⟨hd1, hd2⟩ := hd
        go_wp2
        go_round
        case rel => exact ⟨k + 1, r * 16 + (z k - 48), by omega, by go_num, by rw [i32_or4 r (z k - 48) hr0 hp (by omega) (by omega)], Qb33.hexTo_some HR.out hv.out⟩
        case measure => simp [intOf]; omega
      · by_cases he : 97 ≤ z k ∧ z k ≤ 102
        · have hv : Hid (Qb33.hv (z k) = some (z k - 87)) := by show _ = _; unfold Qb33.hv; rw [if_neg hd, if_pos he]
          obtain ⟨he1, he2⟩ := he
          have g1 : 48 ≤ z k := by omega
          have g2 : ¬ z k ≤ 57 := by omega
          clear hd
          go_wp2
          go_round
          case rel => exact ⟨k + 1, r * 16 + (z k - 87), by omega, by go_num, by rw [i32_or4 r (z k - 87) hr0 hp (by omega) (by omega)], Qb33.hexTo_some HR.out hv.out⟩
          case measure => simp [intOf]; omega
        · by_cases hf : 65 ≤ z k ∧ z k ≤ 70
          · have hv : Hid (Qb33.hv (z k) = some (z k - 55)) := by show _ = _; unfold Qb33.hv; rw [if_neg hd, if_neg he, if_pos hf]
            obtain ⟨hf1, hf2⟩ := hf
            have g1 : 48 ≤ z k := by omega
            have g2 : ¬ z k ≤ 57 := by omega
            have g3 : ¬ 97 ≤ z k := by omega
            clear hd he
            go_wp2
            go_round
            case rel => exact ⟨k + 1, r * 16 + (z k - 55), by omega, by go_num, by rw [i32_or4 r (z k - 55) hr0 hp (by omega) (by omega)], Qb33.hexTo_some HR.out hv.out⟩
            case measure => simp [intOf]; omega
          · have hv : Hid (Qb33.hv (z k) = none) := by show _ = _; unfold Qb33.hv; rw [if_neg hd, if_neg he, if_neg hf]
            have HN : Hid (Qb33.hexTo z 4 = none) := Qb33.hexTo_none hv.out 4 hlt
            go_wp2
            all_goals
              first
                | (exfalso; omega)
                | (go_ret2; exact ⟨hex_no HN.out, rfl⟩)
    · obtain rfl : k = 4 := by omega
      go_wp2
      go_ret2
      exact ⟨hex_yes HR.out, rfl⟩

/-- 'ZZhex4' hands on. -/
theorem ZZhex_short (a : Option Addr) (n c : Nat) (w : World) (hn : n < 4) :
    Calls Try.prog 9 #[.slice a n c] w fun e w' => e = .returned (.tuple #[.int .i32 0, .bool false]) ∧ w = w' := by
  go_enter Try.func9, Try.ntmps9
  go_wp2_with (go_at_call 18; refine (hex4_short a n c _ hn).mono ?_; rintro e w' ⟨rfl, rfl⟩)
  go_ret2
  exact ⟨rfl, rfl⟩

theorem ZZhex_any (b off n c : Nat) (z : Nat → Int) (w : World) (hn : 4 ≤ n) (hn2 : n ≤ 2000000) (hcap : n ≤ c)
    (hz : ∀ k, 0 ≤ z k ∧ z k ≤ 255) (hc : ∀ k, k < 4 → w.cell? ⟨b, off + k, none⟩ = some (.int .u8 (z k))) :
    Calls Try.prog 9 #[.slice (some ⟨b, off, none⟩) n c] w fun e w' => e = .returned (.tuple #[.int .i32 (Qb33.hexR z), .bool (Qb33.hexOK z)]) ∧ w = w' := by
  have HC : Hid (∀ k, k < 4 → w.cell? ⟨b, off + k, none⟩ = some (.int .u8 (z k))) := hc
  clear hc
  go_enter Try.func9, Try.ntmps9
  go_wp2_with (go_at_call 18; refine (hex4_any b off n c z _ hn hn2 hcap hz HC.out).mono ?_; rintro e w' ⟨rfl, rfl⟩)
  go_ret2
  exact ⟨rfl, rfl⟩

end Go.Proofs.Qxb6604033a
