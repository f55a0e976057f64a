/-
  THE FIVE 'zzBytes_..': is the slice's length at most 1<<20?
-/
import Derived.Test.Qxb6604033aRows
import Derived.WalkKit
import Derived.WalkSpells
import Derived.WalkLawsBesides
namespace Go.Proofs.Qxb6604033a
open Go.RowKit

theorem bytes8_yes (a : Option Addr) (n c : Nat) (w : World) (hn : n ≤ 1048576) :
    Calls Try.prog 8 #[.slice a n c] w fun e w' => e = .returned (.bool true) ∧ w = w' := by
  have h1 : ¬ (1048576 : Int) < (n : Int) := by omega
  go_enter Try.func8, Try.ntmps8
  go_wp2
  go_ret
  exact ⟨rfl, rfl⟩

theorem bytes8_no (a : Option Addr) (n c : Nat) (w : World) (hn : 1048576 < n) :
    Calls Try.prog 8 #[.slice a n c] w fun e w' => e = .returned (.bool false) ∧ w = w' := by
  have h1 : (1048576 : Int) < (n : Int) := by omega
  go_enter Try.func8, Try.ntmps8
  go_wp2
  go_ret
  exact ⟨rfl, rfl⟩

theorem bytes11_yes (a : Option Addr) (n c : Nat) (r u : Int) (w : World) (hn : n ≤ 1048576) :
    Calls Try.prog 11 #[.int .u16 r, .int .u8 u, .slice a n c] w fun e w' => e = .returned (.bool true) ∧ w = w' := by
  have h1 : ¬ (1048576 : Int) < (n : Int) := by omega
  go_enter Try.func11, Try.ntmps11
  go_wp2
  go_ret
  exact ⟨rfl, rfl⟩

theorem bytes11_no (a : Option Addr) (n c : Nat) (r u : Int) (w : World) (hn : 1048576 < n) :
    Calls Try.prog 11 #[.int .u16 r, .int .u8 u, .slice a n c] w fun e w' => e = .returned (.bool false) ∧ w = w' := by
  have h1 : (1048576 : Int) < (n : Int) := by omega
  go_enter Try.func11, Try.ntmps11
  go_wp2
  go_ret
  exact ⟨rfl, rfl⟩

theorem bytes12_yes (a : Option Addr) (n c : Nat) (i : Int) (w : World) (hn : n ≤ 1048576) :
    Calls Try.prog 12 #[.slice a n c, .int .i64 i] w fun e w' => e = .returned (.bool true) ∧ w = w' := by
  have h1 : ¬ (1048576 : Int) < (n : Int) := by omega
  go_enter Try.func12, Try.ntmps12
  go_wp2
  go_ret
  exact ⟨rfl, rfl⟩

theorem bytes12_no (a : Option Addr) (n c : Nat) (i : Int) (w : World) (hn : 1048576 < n) :
    Calls Try.prog 12 #[.slice a n c, .int .i64 i] w fun e w' => e = .returned (.bool false) ∧ w = w' := by
  have h1 : (1048576 : Int) < (n : Int) := by omega
  go_enter Try.func12, Try.ntmps12
  go_wp2
  go_ret
  exact ⟨rfl, rfl⟩

theorem bytes16_yes (a : Option Addr) (n c : Nat) (i : Int) (w : World) (hn : n ≤ 1048576) :
    Calls Try.prog 16 #[.slice a n c, .int .i64 i] w fun e w' => e = .returned (.bool true) ∧ w = w' := by
  have h1 : ¬ (1048576 : Int) < (n : Int) := by omega
  go_enter Try.func16, Try.ntmps16
  go_wp2
  go_ret
  exact ⟨rfl, rfl⟩

theorem bytes16_no (a : Option Addr) (n c : Nat) (i : Int) (w : World) (hn : 1048576 < n) :
    Calls Try.prog 16 #[.slice a n c, .int .i64 i] w fun e w' => e = .returned (.bool false) ∧ w = w' := by
  have h1 : (1048576 : Int) < (n : Int) := by omega
  go_enter Try.func16, Try.ntmps16
  go_wp2
  go_ret
  exact ⟨rfl, rfl⟩

theorem bytes17_yes (a : Option Addr) (n c : Nat) (i : Int) (w : World) (hn : n ≤ 1048576) :
    Calls Try.prog 17 #[.slice a n c, .int .i64 i] w fun e w' => e = .returned (.bool true) ∧ w = w' := by
  have h1 : ¬ (1048576 : Int) < (n : Int) := by omega
  go_enter Try.func17, Try.ntmps17
  go_wp2
  go_ret
  exact ⟨rfl, rfl⟩

theorem bytes17_no (a : Option Addr) (n c : Nat) (i : Int) (w : World) (hn : 1048576 < n) :
    Calls Try.prog 17 #[.slice a n c, .int .i64 i] w fun e w' => e = .returned (.bool false) ∧ w = w' := by
  have h1 : (1048576 : Int) < (n : Int) := by omega
  go_enter Try.func17, Try.ntmps17
  go_wp2
  go_ret
  exact ⟨rfl, rfl⟩

end Go.Proofs.Qxb6604033a
