/-
  'zzc := make([]byte, len(s)); copy(zzc, s)': what the world holds behind it: the same bytes in a new block.
-/
import Derived.Test.Qxb6604033aRows
import Derived.WalkKit
import Derived.WalkSpells
import Derived.WalkLawsBesides
import Derived.Deep.OwnRows
import Derived.Laws.CopyOwn
namespace Go.Proofs.Qxb6604033a
open Go.RowKit

theorem Try.info5 : (Try.prog.info? 5).map (fun i => (i.zero, i.size, i.bytes)) = some (some (.int .u8 0), 1, 1) := by kernel_rfl
theorem Try.size5 : (Try.prog.info? 5).map (·.size) = some 1 := by kernel_rfl

/-- The new block that 'make([]byte, n)' lays. -/
def made (n : Nat) : Obj := .cells (madeCells #[.int .u8 0] n) 5

theorem made_run (n : Nat) (hn : n ≤ 2000000) (w : World) :
    (Instr.makeSlice 22 (.int .i64 (n : Int)) (.int .i64 (n : Int))).run Try.prog w = .ok (.slice (some ⟨w.heap.size, 0, none⟩) n n) (w.alloc (made n)) :=
  run_make_row' (P := Try.prog) 22 5 (.int .u8 0) 1 Try.underlying22 Try.info5 rfl .i64 .i64 n (by omega) (by omega) w

theorem copied (x : Addr) (n c : Nat) (z : Nat → Int) (w : World) (hsrc : ∀ k, k < n → w.cell? (x.add k) = some (.int .u8 (z k))) :
    ∃ w2, (Builtin.copy_ #[22, 22] 3 #[.slice (some ⟨w.heap.size, 0, none⟩) n n, .slice (some x) n c]).run Try.prog (w.alloc (made n)) = .ok (goInt n) w2 ∧
      (∀ k, k < n → w2.cell? ⟨w.heap.size, k, none⟩ = some (.int .u8 (z k))) ∧ Below w.heap.size w w2 := by
  have hg : (w.alloc (made n)).heap[w.heap.size]? = some (.cells (madeCells #[.int .u8 0] n) 5 (0, 0)) := by
    show (w.heap.push _)[w.heap.size]? = _
    simp [made]
  have hlen : ((List.range n).map fun k => Value.int .u8 (z k)).length = n := by simp
  have hrun := run_copy_row (P := Try.prog) (w.alloc (made n)) 22 22 3 5 w.heap.size 0 n n x n c (madeCells #[.int .u8 0] n) 5 ((List.range n).map fun k => Value.int .u8 (z k)) Try.underlying22 Try.size5 hg
    (by rw [hlen]; exact (Nat.min_self n).symm)
    (by
      intro j v hv
      obtain ⟨hj, rfl⟩ : j < n ∧ v = .int .u8 (z j) := by
        rw [List.getElem?_map] at hv
        by_cases hj : j < n
        · simp [hj] at hv; exact ⟨hj, hv.symm⟩
        · simp [hj] at hv
      have h1 := hsrc j hj
      have hb := Below.alloc (Below.refl w.heap.size w) (Nat.le_refl _) (made n)
      have hblk : (x.add j).block < w.heap.size := by
        apply Classical.byContradiction
        intro hge
        have : w.heap[(x.add j).block]? = none := Array.getElem?_eq_none (by omega)
        simp [World.cell?, this] at h1
      rw [hb.cell hblk]
      exact h1)
    (by rw [hlen, size_madeCells]; omega)
    (by intro v hv; simp at hv; obtain ⟨k, _, rfl⟩ := hv; rfl)
  rw [hlen] at hrun
  refine ⟨_, hrun, ?_, ?_⟩
  · intro k hk
    have hh := setRow_heap (w.alloc (made n)) w.heap.size _ (((madeCells #[.int .u8 0] n).toList.take 0 ++ ((List.range n).map fun k => Value.int .u8 (z k)) ++ (madeCells #[.int .u8 0] n).toList.drop (0 + n)).toArray) 5 (0, 0) hg
    unfold World.cell?
    rw [hh]
    simp only [List.take_zero, List.nil_append, List.getElem?_toArray]
    rw [List.getElem?_append_left (by simpa using hk)]
    simp [hk]
  · exact below_setRow ((Below.refl _ _).alloc (Nat.le_refl _) _) (Nat.le_refl _) _

end Go.Proofs.Qxb6604033a
