/-
  Small facts that every law's frame wants: a byte out of a row of bytes lies between 0 and 255.
-/
import Derived.Test.Qxb6604033aRows
import Derived.WalkKit
namespace Go.Proofs.Qxb6604033a

theorem getD_byte {zs : List Int} (h : ∀ n ∈ zs, (Lit.int .u8 n).wf = true) (k : Nat) : 0 ≤ zs.getD k 0 ∧ zs.getD k 0 ≤ 255 := by
  by_cases hk : k < zs.length
  · have hm : zs[k] ∈ zs := List.getElem_mem hk
    have := h _ hm
    simp [Lit.wf, IntKind.min, IntKind.max, IntKind.signed, IntKind.bits] at this
    rw [List.getD_eq_getElem?_getD, List.getElem?_eq_getElem hk]
    exact this
  · rw [List.getD_eq_getElem?_getD, List.getElem?_eq_none (by omega)]
    simp

end Go.Proofs.Qxb6604033a
