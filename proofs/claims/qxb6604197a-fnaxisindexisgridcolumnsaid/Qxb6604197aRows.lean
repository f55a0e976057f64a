/-
  No cell of these rows narrows 'for every input' (looked for: loops, veiled, ifaces, maps, wideKeys, modest, calm, conditions, laid).
  DERIVED. THE GIVEN ROWS OF THIS SEAT. 3 by the template 'for every input the law returns true; each argument reads behind the call as it read before'; 0 by the template 'total and deterministic' (their statements: Qxb6604197aTotals.lean).
  GIVEN WITH THE SEED: the statements are not yours to turn. If you find one false, say at which input.
  Laid BY PROGRAM, IN A SANDBOX (cutbox-rows.mjs): the forced cells as the released guide's own fill.sh prints them over the translation 908b3807f8a314fd… (all of the seat's roots in one cut). By AI agents, Wed Nov 11 2026. No macro, syntax, notation, axiom, sorry.
-/
import Derived.Test.Qxb6604197aChecked
import GoSem.Claim
import GoSem.ClaimJoined
import GoSem.ClaimMapViews
import Derived.JoinedTies
import Derived.KernelRfl
namespace Go.Proofs.Qxb6604197a
/- THE CELL 'sum', in the pinned program and in every row, IS THE sha256 OF THE DUMP (.gsa) THAT Qxb6604197aProg.lean LOADS. Nothing in Lean hashes anything: it is a label: what it is worth is what the hold of that sum in a sandbox is worth. -/
noncomputable def Try.pinned : Pinned := { name := "qxb6604197a", sum := "908b3807f8a314fd39c22129ac4196767faacdeb0c898319ff9dfc68c7ef096b", checked := Try.checked }
namespace Rows
def none {H : Type} : Left H := { results := [], args := [] }

/-- 'zzlaws_root_b1.FnAxisIndexIsGridColumn': WHATEVER THE INPUT: true; the input reads as it did. -/
def fnAxisIndexIsGridColumnSpec : ChangeSpec := { name := "fnAxisIndexIsGridColumn", fn := fun _ => fun
  | [d1, d2, d3] => { results := [.lit (.bool true)], args := [d1, d2, d3] }
  | _ => none }
def fnAxisIndexIsGridColumnRow : OpenClaim := { program := "qxb6604197a", sum := "908b3807f8a314fd39c22129ac4196767faacdeb0c898319ff9dfc68c7ef096b", func := "example.com/tessera/tessera/zzlaws_root_b1.FnAxisIndexIsGridColumn", spec := "fnAxisIndexIsGridColumn", apart := false }
def FnAxisIndexIsGridColumnSaid : Prop := fnAxisIndexIsGridColumnRow.holds Try.pinned (OpenSpec.ofChange fnAxisIndexIsGridColumnSpec)

/-- ITS FALSE NEIGHBOUR: 'it returns false'. Refute it at one input. -/
def fnAxisIndexIsGridColumnWrong : ChangeSpec := { name := "fnAxisIndexIsGridColumn", fn := fun _ => fun
  | [d1, d2, d3] => { results := [.lit (.bool false)], args := [d1, d2, d3] }
  | _ => none }
def FnAxisIndexIsGridColumnWrongFalsely : Prop := fnAxisIndexIsGridColumnRow.holds Try.pinned (OpenSpec.ofChange fnAxisIndexIsGridColumnWrong)

/-- 'zzlaws_root_b1.FnHalvesAgreeWithAxisIndex': WHATEVER THE INPUT: true; the input reads as it did. -/
def fnHalvesAgreeWithAxisIndexSpec : ChangeSpec := { name := "fnHalvesAgreeWithAxisIndex", fn := fun _ => fun
  | [d1, d2, d3, d4, d5, d6] => { results := [.lit (.bool true)], args := [d1, d2, d3, d4, d5, d6] }
  | _ => none }
def fnHalvesAgreeWithAxisIndexRow : OpenClaim := { program := "qxb6604197a", sum := "908b3807f8a314fd39c22129ac4196767faacdeb0c898319ff9dfc68c7ef096b", func := "example.com/tessera/tessera/zzlaws_root_b1.FnHalvesAgreeWithAxisIndex", spec := "fnHalvesAgreeWithAxisIndex", apart := false }
def FnHalvesAgreeWithAxisIndexSaid : Prop := fnHalvesAgreeWithAxisIndexRow.holds Try.pinned (OpenSpec.ofChange fnHalvesAgreeWithAxisIndexSpec)

/-- ITS FALSE NEIGHBOUR: 'it returns false'. Refute it at one input. -/
def fnHalvesAgreeWithAxisIndexWrong : ChangeSpec := { name := "fnHalvesAgreeWithAxisIndex", fn := fun _ => fun
  | [d1, d2, d3, d4, d5, d6] => { results := [.lit (.bool false)], args := [d1, d2, d3, d4, d5, d6] }
  | _ => none }
def FnHalvesAgreeWithAxisIndexWrongFalsely : Prop := fnHalvesAgreeWithAxisIndexRow.holds Try.pinned (OpenSpec.ofChange fnHalvesAgreeWithAxisIndexWrong)

/-- 'zzlaws_root_b1.FnKeySpansCoverEveryKeyAndOnly180More': WHATEVER THE INPUT: true; the input reads as it did. -/
def fnKeySpansCoverEveryKeyAndOnly180MoreSpec : ChangeSpec := { name := "fnKeySpansCoverEveryKeyAndOnly180More", fn := fun _ => fun
  | [d1, d2, d3, d4, d5] => { results := [.lit (.bool true)], args := [d1, d2, d3, d4, d5] }
  | _ => none }
def fnKeySpansCoverEveryKeyAndOnly180MoreRow : OpenClaim := { program := "qxb6604197a", sum := "908b3807f8a314fd39c22129ac4196767faacdeb0c898319ff9dfc68c7ef096b", func := "example.com/tessera/tessera/zzlaws_root_b1.FnKeySpansCoverEveryKeyAndOnly180More", spec := "fnKeySpansCoverEveryKeyAndOnly180More", apart := false }
def FnKeySpansCoverEveryKeyAndOnly180MoreSaid : Prop := fnKeySpansCoverEveryKeyAndOnly180MoreRow.holds Try.pinned (OpenSpec.ofChange fnKeySpansCoverEveryKeyAndOnly180MoreSpec)

/-- ITS FALSE NEIGHBOUR: 'it returns false'. Refute it at one input. -/
def fnKeySpansCoverEveryKeyAndOnly180MoreWrong : ChangeSpec := { name := "fnKeySpansCoverEveryKeyAndOnly180More", fn := fun _ => fun
  | [d1, d2, d3, d4, d5] => { results := [.lit (.bool false)], args := [d1, d2, d3, d4, d5] }
  | _ => none }
def FnKeySpansCoverEveryKeyAndOnly180MoreWrongFalsely : Prop := fnKeySpansCoverEveryKeyAndOnly180MoreRow.holds Try.pinned (OpenSpec.ofChange fnKeySpansCoverEveryKeyAndOnly180MoreWrong)

end Rows
end Go.Proofs.Qxb6604197a
