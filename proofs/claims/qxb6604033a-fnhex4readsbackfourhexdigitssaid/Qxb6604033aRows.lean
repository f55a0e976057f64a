/-
  No cell of these rows narrows 'for every input' (looked for: loops, veiled, ifaces, maps, wideKeys, modest, calm, conditions, laid).
  DERIVED. THE GIVEN ROWS OF THIS SEAT. 5 by the template 'for every input the law returns true; each argument reads behind the call as it read before'; 0 by the template 'total and deterministic' (their statements: Qxb6604033aTotals.lean).
  GIVEN WITH THE SEED: the statements are not yours to turn. If you find one false, say at which input.
  Laid BY PROGRAM, IN A SANDBOX (cutbox-rows.mjs): the forced cells as the released guide's own fill.sh prints them over the translation 825aeffca7e54efe… (all of the seat's roots in one cut). By AI agents, Wed Nov 11 2026. No macro, syntax, notation, axiom, sorry.
-/
import Derived.Test.Qxb6604033aChecked
import GoSem.Claim
import GoSem.ClaimJoined
import GoSem.ClaimMapViews
import Derived.JoinedTies
import Derived.KernelRfl
namespace Go.Proofs.Qxb6604033a
/- THE CELL 'sum', in the pinned program and in every row, IS THE sha256 OF THE DUMP (.gsa) THAT Qxb6604033aProg.lean LOADS. Nothing in Lean hashes anything: it is a label: what it is worth is what the hold of that sum in a sandbox is worth. -/
noncomputable def Try.pinned : Pinned := { name := "qxb6604033a", sum := "825aeffca7e54efeff4886fe7e8cc33242542c7ee42ef8a37b37fb3571c1db84", checked := Try.checked }
namespace Rows
def none {H : Type} : Left H := { results := [], args := [] }

/-- 'zzlaws_internal_openai_b1.FnHex4MatchesTableModel': WHATEVER THE INPUT: true; the input reads as it did. -/
def fnHex4MatchesTableModelSpec : ChangeSpec := { name := "fnHex4MatchesTableModel", fn := fun _ => fun
  | [d] => { results := [.lit (.bool true)], args := [d] }
  | _ => none }
def fnHex4MatchesTableModelRow : OpenClaim := { program := "qxb6604033a", sum := "825aeffca7e54efeff4886fe7e8cc33242542c7ee42ef8a37b37fb3571c1db84", func := "example.com/foyer/foyer/zzlaws_internal_openai_b1.FnHex4MatchesTableModel", spec := "fnHex4MatchesTableModel", apart := false }
def FnHex4MatchesTableModelSaid : Prop := fnHex4MatchesTableModelRow.holds Try.pinned (OpenSpec.ofChange fnHex4MatchesTableModelSpec)

/-- ITS FALSE NEIGHBOUR: 'it returns false'. Refute it at one input. -/
def fnHex4MatchesTableModelWrong : ChangeSpec := { name := "fnHex4MatchesTableModel", fn := fun _ => fun
  | [d] => { results := [.lit (.bool false)], args := [d] }
  | _ => none }
def FnHex4MatchesTableModelWrongFalsely : Prop := fnHex4MatchesTableModelRow.holds Try.pinned (OpenSpec.ofChange fnHex4MatchesTableModelWrong)

/-- 'zzlaws_internal_openai_b1.FnHex4ReadsBackFourHexDigits': WHATEVER THE INPUT: true; the input reads as it did. -/
def fnHex4ReadsBackFourHexDigitsSpec : ChangeSpec := { name := "fnHex4ReadsBackFourHexDigits", fn := fun _ => fun
  | [d1, d2, d3] => { results := [.lit (.bool true)], args := [d1, d2, d3] }
  | _ => none }
def fnHex4ReadsBackFourHexDigitsRow : OpenClaim := { program := "qxb6604033a", sum := "825aeffca7e54efeff4886fe7e8cc33242542c7ee42ef8a37b37fb3571c1db84", func := "example.com/foyer/foyer/zzlaws_internal_openai_b1.FnHex4ReadsBackFourHexDigits", spec := "fnHex4ReadsBackFourHexDigits", apart := false }
def FnHex4ReadsBackFourHexDigitsSaid : Prop := fnHex4ReadsBackFourHexDigitsRow.holds Try.pinned (OpenSpec.ofChange fnHex4ReadsBackFourHexDigitsSpec)

/-- ITS FALSE NEIGHBOUR: 'it returns false'. Refute it at one input. -/
def fnHex4ReadsBackFourHexDigitsWrong : ChangeSpec := { name := "fnHex4ReadsBackFourHexDigits", fn := fun _ => fun
  | [d1, d2, d3] => { results := [.lit (.bool false)], args := [d1, d2, d3] }
  | _ => none }
def FnHex4ReadsBackFourHexDigitsWrongFalsely : Prop := fnHex4ReadsBackFourHexDigitsRow.holds Try.pinned (OpenSpec.ofChange fnHex4ReadsBackFourHexDigitsWrong)

/-- 'zzlaws_internal_openai_b1.FnNumberEndMatchesAutomaton': WHATEVER THE INPUT: true; the input reads as it did. -/
def fnNumberEndMatchesAutomatonSpec : ChangeSpec := { name := "fnNumberEndMatchesAutomaton", fn := fun _ => fun
  | [d1, d2] => { results := [.lit (.bool true)], args := [d1, d2] }
  | _ => none }
def fnNumberEndMatchesAutomatonRow : OpenClaim := { program := "qxb6604033a", sum := "825aeffca7e54efeff4886fe7e8cc33242542c7ee42ef8a37b37fb3571c1db84", func := "example.com/foyer/foyer/zzlaws_internal_openai_b1.FnNumberEndMatchesAutomaton", spec := "fnNumberEndMatchesAutomaton", apart := false }
def FnNumberEndMatchesAutomatonSaid : Prop := fnNumberEndMatchesAutomatonRow.holds Try.pinned (OpenSpec.ofChange fnNumberEndMatchesAutomatonSpec)

/-- ITS FALSE NEIGHBOUR: 'it returns false'. Refute it at one input. -/
def fnNumberEndMatchesAutomatonWrong : ChangeSpec := { name := "fnNumberEndMatchesAutomaton", fn := fun _ => fun
  | [d1, d2] => { results := [.lit (.bool false)], args := [d1, d2] }
  | _ => none }
def FnNumberEndMatchesAutomatonWrongFalsely : Prop := fnNumberEndMatchesAutomatonRow.holds Try.pinned (OpenSpec.ofChange fnNumberEndMatchesAutomatonWrong)

/-- 'zzlaws_internal_openai_b1.FnNumberEndShiftsWithStart': WHATEVER THE INPUT: true; the input reads as it did. -/
def fnNumberEndShiftsWithStartSpec : ChangeSpec := { name := "fnNumberEndShiftsWithStart", fn := fun _ => fun
  | [d1, d2] => { results := [.lit (.bool true)], args := [d1, d2] }
  | _ => none }
def fnNumberEndShiftsWithStartRow : OpenClaim := { program := "qxb6604033a", sum := "825aeffca7e54efeff4886fe7e8cc33242542c7ee42ef8a37b37fb3571c1db84", func := "example.com/foyer/foyer/zzlaws_internal_openai_b1.FnNumberEndShiftsWithStart", spec := "fnNumberEndShiftsWithStart", apart := false }
def FnNumberEndShiftsWithStartSaid : Prop := fnNumberEndShiftsWithStartRow.holds Try.pinned (OpenSpec.ofChange fnNumberEndShiftsWithStartSpec)

/-- ITS FALSE NEIGHBOUR: 'it returns false'. Refute it at one input. -/
def fnNumberEndShiftsWithStartWrong : ChangeSpec := { name := "fnNumberEndShiftsWithStart", fn := fun _ => fun
  | [d1, d2] => { results := [.lit (.bool false)], args := [d1, d2] }
  | _ => none }
def FnNumberEndShiftsWithStartWrongFalsely : Prop := fnNumberEndShiftsWithStartRow.holds Try.pinned (OpenSpec.ofChange fnNumberEndShiftsWithStartWrong)

/-- 'zzlaws_internal_openai_b1.FnNumberEndStableWhenCutAtItsEnd': WHATEVER THE INPUT: true; the input reads as it did. -/
def fnNumberEndStableWhenCutAtItsEndSpec : ChangeSpec := { name := "fnNumberEndStableWhenCutAtItsEnd", fn := fun _ => fun
  | [d1, d2] => { results := [.lit (.bool true)], args := [d1, d2] }
  | _ => none }
def fnNumberEndStableWhenCutAtItsEndRow : OpenClaim := { program := "qxb6604033a", sum := "825aeffca7e54efeff4886fe7e8cc33242542c7ee42ef8a37b37fb3571c1db84", func := "example.com/foyer/foyer/zzlaws_internal_openai_b1.FnNumberEndStableWhenCutAtItsEnd", spec := "fnNumberEndStableWhenCutAtItsEnd", apart := false }
def FnNumberEndStableWhenCutAtItsEndSaid : Prop := fnNumberEndStableWhenCutAtItsEndRow.holds Try.pinned (OpenSpec.ofChange fnNumberEndStableWhenCutAtItsEndSpec)

/-- ITS FALSE NEIGHBOUR: 'it returns false'. Refute it at one input. -/
def fnNumberEndStableWhenCutAtItsEndWrong : ChangeSpec := { name := "fnNumberEndStableWhenCutAtItsEnd", fn := fun _ => fun
  | [d1, d2] => { results := [.lit (.bool false)], args := [d1, d2] }
  | _ => none }
def FnNumberEndStableWhenCutAtItsEndWrongFalsely : Prop := fnNumberEndStableWhenCutAtItsEndRow.holds Try.pinned (OpenSpec.ofChange fnNumberEndStableWhenCutAtItsEndWrong)

end Rows
end Go.Proofs.Qxb6604033a
