/-
  THE WALKS OF digitsEnd (21), numberEnd (20), ZZnumberEnd (15).
-/
import Derived.Test.Qxb6604033aRows
import Derived.Test.Qxb6604033aPlain
import Derived.WalkKit
import Derived.WalkSpells
import Derived.WalkLawsBesides
import Derived.Deep.CutRange
import Derived.Deep.CutBlock
namespace Go.Proofs.Qxb6604033a
open Go.RowKit

theorem ret_int {k : IntKind} {a b : Int} (h : a = b) : Ending.returned (.int k a) = .returned (.int k b) := by rw [h]

set_option maxHeartbeats 400000 in
theorem digitsEnd_any (b off n c : Nat) (z : Nat → Int) (i : Nat) (w : World) (hn : n ≤ 1048576)
    (hz : ∀ k, 0 ≤ z k ∧ z k ≤ 255) (hc : ∀ k, k < n → w.cell? ⟨b, off + k, none⟩ = some (.int .u8 (z k))) :
    Calls Try.prog 21 #[.slice (some ⟨b, off, none⟩) n c, .int .i64 i] w fun e w' => e = .returned (.int .i64 (Qb33.dEnd z n i : Nat)) ∧ w' = w := by
  go_enter Try.func21, Try.ntmps21
  go_wp2
  go_loop [1] (fun t => ∃ k : Nat, i ≤ k ∧ (k = i ∨ k ≤ n) ∧ t = .int .i64 k ∧ Qb33.dEnd z n i = Qb33.dEnd z n k) (fun t => n - (intOf t).toNat)
  case atStart => exact ⟨i, Nat.le_refl _, .inl rfl, rfl, rfl⟩
  case round =>
    obtain ⟨k, hik, hkn, rfl, he⟩ := hrel
    have HE : Hid (Qb33.dEnd z n i = Qb33.dEnd z n k) := he
    clear he
    by_cases hlt : k < n
    · have hck := hc k hlt
      have hzk := hz k
      by_cases h1 : 48 ≤ z k
      · by_cases h2 : z k ≤ 57
        · go_wp2
          go_round
          case rel => exact ⟨k + 1, by omega, .inr (by omega), by go_num, by rw [HE.out]; exact Qb33.dEnd_step z n k hlt (by simp [Qb33.dig, h1, h2])⟩
          case measure => simp [intOf]; omega
        · go_wp2
          go_ret
          exact ⟨ret_int (by rw [HE.out, Qb33.dEnd_no z n k (by simp [Qb33.dig]; omega)]), rfl⟩
      · go_wp2
        go_ret
        exact ⟨ret_int (by rw [HE.out, Qb33.dEnd_no z n k (by simp [Qb33.dig]; omega)]), rfl⟩
    · go_wp2
      go_ret
      exact ⟨ret_int (by rw [HE.out, Qb33.dEnd_out z n k hlt]), rfl⟩

/-- The same, the start given as an integer. -/
theorem digitsEnd_at (b off n c : Nat) (z : Nat → Int) (i d : Nat) (hd : Hid (Qb33.dEnd z n i = d)) (j : Int) (w : World) (hn : n ≤ 1048576)
    (hz : ∀ k, 0 ≤ z k ∧ z k ≤ 255) (hc : ∀ k, k < n → w.cell? ⟨b, off + k, none⟩ = some (.int .u8 (z k))) (hj : j = (i : Nat)) :
    Calls Try.prog 21 #[.slice (some ⟨b, off, none⟩) n c, .int .i64 j] w fun e w' => e = .returned (.int .i64 d) ∧ w' = w := by
  subst hj
  rw [← hd.out]
  exact digitsEnd_any b off n c z i w hn hz hc

set_option maxRecDepth 100000 in
set_option maxHeartbeats 1000000 in
theorem numberEnd_any (b off n c : Nat) (z : Nat → Int) (i : Nat) (w : World) (hn : n ≤ 1048576) (hi : i ≤ 9223372036854775807)
    (hz : ∀ k, 0 ≤ z k ∧ z k ≤ 255) (hc : ∀ k, k < n → w.cell? ⟨b, off + k, none⟩ = some (.int .u8 (z k))) :
    Calls Try.prog 20 #[.slice (some ⟨b, off, none⟩) n c, .int .i64 i] w fun e w' => e = .returned (.int .i64 (Qb33.res (Qb33.nEnd z n i))) ∧ w' = w := by
  go_enter Try.func20, Try.ntmps20
  go_upto_region 1 with fail
  go_cut [16] from 6 (fun t wc => t = .bool (Qb33.isAt z n i 45) ∧ wc = w)
  case first =>
    by_cases hlt : i < n
    · have hci := hc i hlt
      by_cases hm : (z i == 45) = true
      · go_wp2
        go_meet
        case rel => exact ⟨by simp [Qb33.isAt, hlt, hm], rfl⟩
      · have hm' : (z i == 45) = false := by simpa using hm
        clear hm
        go_wp2
        go_meet
        case rel => exact ⟨by simp [Qb33.isAt, hlt, hm'], rfl⟩
    · go_wp2
      go_meet
      case rel => exact ⟨by simp [Qb33.isAt, hlt], rfl⟩
  case rest =>
    obtain ⟨rfl, rfl⟩ := hcut
    go_upto_if 16 with fail
    go_cut [1] from 6 (fun t wc' => t = .int .i64 (Qb33.minusEnd z n i : Nat) ∧ wc' = wc)
    case first =>
      have hd : Hid (Qb33.minusEnd z n i = bif Qb33.isAt z n i 45 then i + 1 else i) := rfl
      cases hb : Qb33.isAt z n i 45
      · go_wp2
        go_meet
        case rel => exact ⟨by rw [hd.out, hb]; rfl, rfl⟩
      · have hlt : i < n := Qb33.isAt_lt hb
        go_wp2
        go_meet
        case rel => exact ⟨by rw [hd.out, hb]; go_num, rfl⟩
    case rest =>
      obtain ⟨rfl, rfl⟩ := hcut
      have hmb := Qb33.minusEnd_bd z n i
      generalize hm : Qb33.minusEnd z n i = m at hmb ⊢
      have HM : Hid (Qb33.minusEnd z n i = m) := hm
      clear hm
      have hmm : m ≤ 9223372036854775807 := by omega
      go_upto_block 0 with fail
      go_cut [1] from 6 (fun t wc' => (∃ k : Nat, t = .int .i64 k ∧ Qb33.intEnd z n m = some k) ∧ wc' = wc)
      case first =>
        by_cases hlt : m < n
        · have hcm := hc m hlt
          have hzm := hz m
          by_cases h0 : (z m == 48) = true
          · go_wp2
            go_meet
            case rel => exact ⟨⟨m + 1, by go_num, Qb33.intEnd_zero hlt h0⟩, rfl⟩
          · have h0' : (z m == 48) = false := by simpa using h0
            clear h0
            by_cases h1 : 49 ≤ z m
            · by_cases h2 : z m ≤ 57
              · go_wp2_with (go_at_call 21; refine (digitsEnd_at b off n c z (m + 1) _ rfl _ _ hn hz hc (by omega)).mono ?_; rintro e w' ⟨rfl, rfl⟩)
                go_meet
                case rel => exact ⟨⟨Qb33.dEnd z n (m + 1), rfl, Qb33.intEnd_19 hlt h0' h1 h2⟩, rfl⟩
              · go_wp2
                go_ret
                exact ⟨ret_int (by rw [Qb33.nEnd_int (by rw [HM.out]; exact Qb33.intEnd_none h0' (by omega))]; rfl), rfl⟩
            · go_wp2
              go_ret
              exact ⟨ret_int (by rw [Qb33.nEnd_int (by rw [HM.out]; exact Qb33.intEnd_none h0' (by omega))]; rfl), rfl⟩
        · go_wp2
          go_ret
          exact ⟨ret_int (by rw [Qb33.nEnd_int (by rw [HM.out]; exact Qb33.intEnd_out hlt)]; rfl), rfl⟩
      case rest =>
        obtain ⟨⟨k, rfl, hk⟩, rfl⟩ := hcut
        have hkb := Qb33.intEnd_bd hk
        have HK : Hid (Qb33.intEnd z n (Qb33.minusEnd z n i) = some k) := by rw [HM.out]; exact hk
        clear hk
        go_upto_region 8 with fail
        go_cut [66] from 6 (fun t wc' => t = .bool (Qb33.isAt z n k 46) ∧ wc' = wc)
        case first =>
          by_cases hlt : k < n
          · have hci := hc k hlt
            by_cases hm : (z k == 46) = true
            · go_wp2
              go_meet
              case rel => exact ⟨by simp [Qb33.isAt, hlt, hm], rfl⟩
            · have hm' : (z k == 46) = false := by simpa using hm
              clear hm
              go_wp2
              go_meet
              case rel => exact ⟨by simp [Qb33.isAt, hlt, hm'], rfl⟩
          · go_wp2
            go_meet
            case rel => exact ⟨by simp [Qb33.isAt, hlt], rfl⟩
        case rest =>
          obtain ⟨rfl, rfl⟩ := hcut
          go_upto_if 66 with fail
          go_cut [1] from 6 (fun t wc' => (∃ q : Nat, t = .int .i64 q ∧ Qb33.fracEnd z n k = some q) ∧ wc' = wc)
          case first =>
            cases hb : Qb33.isAt z n k 46
            · go_wp2
              go_meet
              case rel => exact ⟨⟨k, rfl, by simp [Qb33.fracEnd, hb]⟩, rfl⟩
            · have hlt : k < n := Qb33.isAt_lt hb
              have HB : Hid (Qb33.isAt z n k 46 = true) := hb
              have d1 := Qb33.dEnd_ge z n (k + 1)
              have d2 := Qb33.dEnd_le z n (k + 1) hlt
              generalize hd : Qb33.dEnd z n (k + 1) = d at d1 d2
              have HD : Hid (Qb33.dEnd z n (k + 1) = d) := hd
              clear hd
              have hcd := hc (d - 1) (by omega)
              by_cases h46 : (z (d - 1) == 46) = true
              · go_wp2_with (go_at_call 21; refine (digitsEnd_at b off n c z (k + 1) d HD _ _ hn hz hc (by omega)).mono ?_; rintro e w' ⟨rfl, rfl⟩)
                go_ret
                exact ⟨ret_int (by rw [Qb33.nEnd_frac HK.out (by simp [Qb33.fracEnd, HB.out, HD.out, h46])]; rfl), rfl⟩
              · have h46' : (z (d - 1) == 46) = false := by simpa using h46
                clear h46
                go_wp2_with (go_at_call 21; refine (digitsEnd_at b off n c z (k + 1) d HD _ _ hn hz hc (by omega)).mono ?_; rintro e w' ⟨rfl, rfl⟩)
                go_meet
                case rel => exact ⟨⟨d, rfl, by simp [Qb33.fracEnd, HB.out, HD.out, h46']⟩, rfl⟩
          case rest =>
            obtain ⟨⟨q, rfl, hq⟩, rfl⟩ := hcut
            have hqb := Qb33.fracEnd_bd hkb.2 hq
            have HQ : Hid (Qb33.nEnd z n i = Qb33.expEnd z n q) := Qb33.nEnd_exp HK.out hq
            clear hq
            go_upto_region 12 with fail
            go_cut [94] from 6 (fun t wc' => t = .bool (Qb33.isOf z n q 101 69) ∧ wc' = wc)
            case first =>
              by_cases hlt : q < n
              · have hci := hc q hlt
                by_cases hm : (z q == 101) = true
                · go_wp2
                  go_meet
                  case rel => exact ⟨by simp [Qb33.isOf, hlt, hm], rfl⟩
                · have hm' : (z q == 101) = false := by simpa using hm
                  clear hm
                  by_cases hm2 : (z q == 69) = true
                  · go_wp2
                    go_meet
                    case rel => exact ⟨by simp [Qb33.isOf, hlt, hm', hm2], rfl⟩
                  · have hm2' : (z q == 69) = false := by simpa using hm2
                    clear hm2
                    go_wp2
                    go_meet
                    case rel => exact ⟨by simp [Qb33.isOf, hlt, hm', hm2'], rfl⟩
              · go_wp2
                go_meet
                case rel => exact ⟨by simp [Qb33.isOf, hlt], rfl⟩
            case rest =>
              obtain ⟨rfl, rfl⟩ := hcut
              cases hb : Qb33.isOf z n q 101 69
              · go_wp2
                go_ret
                exact ⟨ret_int (by rw [HQ.out, Qb33.expEnd_no hb]; rfl), rfl⟩
              · have hlt : q < n := Qb33.isOf_lt hb
                have HB : Hid (Qb33.nEnd z n i = Qb33.tailEnd z n (Qb33.signEnd z n (q + 1))) := HQ.out.trans (Qb33.expEnd_yes hb)
                go_upto_region 14 with fail
                go_cut [114] from 6 (fun t wc' => t = .bool (Qb33.isOf z n (q + 1) 43 45) ∧ wc' = wc)
                case first =>
                  by_cases hlt : q + 1 < n
                  · have hci := hc (q + 1) hlt
                    by_cases hm : (z (q + 1) == 43) = true
                    · go_wp2
                      go_meet
                      case rel => exact ⟨by simp [Qb33.isOf, hlt, hm], rfl⟩
                    · have hm' : (z (q + 1) == 43) = false := by simpa using hm
                      clear hm
                      by_cases hm2 : (z (q + 1) == 45) = true
                      · go_wp2
                        go_meet
                        case rel => exact ⟨by simp [Qb33.isOf, hlt, hm', hm2], rfl⟩
                      · have hm2' : (z (q + 1) == 45) = false := by simpa using hm2
                        clear hm2
                        go_wp2
                        go_meet
                        case rel => exact ⟨by simp [Qb33.isOf, hlt, hm', hm2'], rfl⟩
                  · go_wp2
                    go_meet
                    case rel => exact ⟨by simp [Qb33.isOf, hlt], rfl⟩
                case rest =>
                  obtain ⟨rfl, rfl⟩ := hcut
                  go_upto_if 114 with fail
                  go_cut [1] from 6 (fun t wc' => t = .int .i64 (Qb33.signEnd z n (q + 1) : Nat) ∧ wc' = wc)
                  case first =>
                    have hd : Hid (Qb33.signEnd z n (q + 1) = bif Qb33.isOf z n (q + 1) 43 45 then q + 1 + 1 else q + 1) := rfl
                    cases hb2 : Qb33.isOf z n (q + 1) 43 45
                    · go_wp2
                      go_meet
                      case rel => exact ⟨by rw [hd.out, hb2]; go_num, rfl⟩
                    · have hlt : q + 1 < n := Qb33.isOf_lt hb2
                      go_wp2
                      go_meet
                      case rel => exact ⟨by rw [hd.out, hb2]; go_num, rfl⟩
                  case rest =>
                    obtain ⟨rfl, rfl⟩ := hcut
                    have sb := Qb33.signEnd_bd z n (q + 1) (by omega)
                    generalize hs : Qb33.signEnd z n (q + 1) = s at sb ⊢
                    have HS : Hid (Qb33.nEnd z n i = Qb33.tailEnd z n s) := HB.out.trans (by rw [hs])
                    clear hs
                    have d1 := Qb33.dEnd_ge z n s
                    have d2 := Qb33.dEnd_le z n s sb.2
                    generalize hd : Qb33.dEnd z n s = d at d1 d2
                    have HD : Hid (Qb33.dEnd z n s = d) := hd
                    clear hd
                    by_cases hlt : s < d
                    · go_wp2_with (go_at_call 21; refine (digitsEnd_at b off n c z s d HD _ _ hn hz hc (by omega)).mono ?_; rintro e w' ⟨rfl, rfl⟩)
                      go_ret
                      exact ⟨ret_int (by rw [HS.out]; simp [Qb33.tailEnd, HD.out, hlt, Qb33.res]), rfl⟩
                    · go_wp2_with (go_at_call 21; refine (digitsEnd_at b off n c z s d HD _ _ hn hz hc (by omega)).mono ?_; rintro e w' ⟨rfl, rfl⟩)
                      go_ret
                      exact ⟨ret_int (by rw [HS.out]; simp [Qb33.tailEnd, HD.out, hlt, Qb33.res]), rfl⟩

end Go.Proofs.Qxb6604033a
