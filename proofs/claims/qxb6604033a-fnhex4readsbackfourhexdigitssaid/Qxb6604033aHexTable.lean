/-
  THE WALK OF hexDigitValue (10).
-/
import Derived.Test.Qxb6604033aHex
namespace Go.Proofs.Qxb6604033a
open Go.RowKit

theorem low_byte : ∀ (k : Nat) (h : k < 16), (((⟨#[48, 49, 50, 51, 52, 53, 54, 55, 56, 57, 97, 98, 99, 100, 101, 102]⟩ : ByteArray)[k]'h).toNat : Int) = Qb33.low k := by decide
theorem upp_byte : ∀ (k : Nat) (h : k < 16), (((⟨#[48, 49, 50, 51, 52, 53, 54, 55, 56, 57, 65, 66, 67, 68, 69, 70]⟩ : ByteArray)[k]'h).toNat : Int) = Qb33.upp k := by decide

theorem hd_ret {c : Int} {k : Nat} (h : Qb33.hv c = some (k : Int)) :
    Ending.returned (.tuple #[.int .i32 (k : Int), .bool true]) = .returned (.tuple #[.int .i32 ((Qb33.hv c).getD 0), .bool (Qb33.hv c).isSome]) := by simp [h]
theorem hd_low {c : Int} {k : Nat} (h : k < 16) (e : Qb33.low k = c) : Qb33.hv c = some (k : Int) := by rw [← e]; exact Qb33.hv_low k h
theorem hd_upp {c : Int} {k : Nat} (h : k < 16) (e : Qb33.upp k = c) : Qb33.hv c = some (k : Int) := by rw [← e]; exact Qb33.hv_upp k h

set_option maxHeartbeats 400000 in
theorem hexDigit_any (c : Int) (w : World) (_hc : 0 ≤ c ∧ c ≤ 255) :
    Calls Try.prog 10 #[.int .u8 c] w fun e w' => e = .returned (.tuple #[.int .i32 ((Qb33.hv c).getD 0), .bool (Qb33.hv c).isSome]) ∧ w = w' := by
  go_enter Try.func10, Try.ntmps10
  go_wp2
  go_loop [4] (fun t => ∃ k : Nat, k ≤ 16 ∧ t = .int .i64 k ∧ ∀ j, j < k → Qb33.low j ≠ c ∧ Qb33.upp j ≠ c) (fun t => 16 - (intOf t).toNat)
  case atStart => exact ⟨0, by omega, rfl, fun j hj => by omega⟩
  case round =>
    obtain ⟨k, hk, rfl, hm⟩ := hrel
    have HM : Hid (∀ j, j < k → Qb33.low j ≠ c ∧ Qb33.upp j ≠ c) := hm
    clear hm
    by_cases hlt : k < 16
    · have hl := low_byte k hlt
      have hu := upp_byte k hlt
      by_cases h1 : (Qb33.low k == c) = true
      · go_wp2
        go_ret2
        exact ⟨hd_ret (hd_low hlt (by simpa using h1)), rfl⟩
      · have h1' : (Qb33.low k == c) = false := by simpa using h1
        clear h1
        by_cases h2 : (Qb33.upp k == c) = true
        · go_wp2
          go_ret2
          exact ⟨hd_ret (hd_upp hlt (by simpa using h2)), rfl⟩
        · have h2' : (Qb33.upp k == c) = false := by simpa using h2
          clear h2
          go_wp2
          go_round
          case rel =>
            refine ⟨k + 1, by omega, by go_num, fun j hj => ?_⟩
            by_cases e : j = k
            · subst e; exact ⟨by simpa using h1', by simpa using h2'⟩
            · exact HM.out j (by omega)
          case measure => simp [intOf]; omega
    · have hn : Qb33.hv c = none := Qb33.hv_miss c (fun j hj => HM.out j (by omega))
      have HN : Hid (Qb33.hv c = none) := hn
      clear hn
      go_wp2
      go_ret2
      exact ⟨by simp [HN.out], rfl⟩

end Go.Proofs.Qxb6604033a
