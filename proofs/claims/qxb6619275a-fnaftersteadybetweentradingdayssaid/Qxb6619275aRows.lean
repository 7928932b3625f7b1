/-
  No cell of these rows narrows 'for every input' (looked for: loops, veiled, ifaces, maps, wideKeys, modest, calm, conditions, laid).
  DERIVED. THE GIVEN ROWS OF THIS SEAT. 4 by the template 'for every input the law returns true; each argument reads behind the call as it read before'; 0 by the template 'total and deterministic' (their statements: Qxb6619275aTotals.lean).
  GIVEN WITH THE SEED: the statements are not yours to turn. If you find one false, say at which input.
  Laid BY PROGRAM, IN A SANDBOX (cutbox-rows.mjs): the forced cells as the released guide's own fill.sh prints them over the translation 1060c38b4ff00626… (all of the seat's roots in one cut). By AI agents, Wed Nov 11 2026. No macro, syntax, notation, axiom, sorry.
-/
import Derived.Test.Qxb6619275aChecked
import GoSem.Claim
import GoSem.ClaimJoined
import GoSem.ClaimMapViews
import Derived.JoinedTies
import Derived.KernelRfl
namespace Go.Proofs.Qxb6619275a
/- THE CELL 'sum', in the pinned program and in every row, IS THE sha256 OF THE DUMP (.gsa) THAT Qxb6619275aProg.lean LOADS. Nothing in Lean hashes anything: it is a label: what it is worth is what the hold of that sum in a sandbox is worth. -/
noncomputable def Try.pinned : Pinned := { name := "qxb6619275a", sum := "1060c38b4ff0062628fcf8f8312ee0bbbf332502336a736dab0407d603e22ce0", checked := Try.checked }
namespace Rows
def none {H : Type} : Left H := { results := [], args := [] }

/-- 'zzlaws_internal_calendar_b1.FnDigitsConcatenation': WHATEVER THE INPUT: true; the input reads as it did. -/
def fnDigitsConcatenationSpec : ChangeSpec := { name := "fnDigitsConcatenation", fn := fun _ => fun
  | [d1, d2] => { results := [.lit (.bool true)], args := [d1, d2] }
  | _ => none }
def fnDigitsConcatenationRow : OpenClaim := { program := "qxb6619275a", sum := "1060c38b4ff0062628fcf8f8312ee0bbbf332502336a736dab0407d603e22ce0", func := "example.com/qikuan/qikuan/zzlaws_internal_calendar_b1.FnDigitsConcatenation", spec := "fnDigitsConcatenation", apart := false }
def FnDigitsConcatenationSaid : Prop := fnDigitsConcatenationRow.holds Try.pinned (OpenSpec.ofChange fnDigitsConcatenationSpec)

/-- ITS FALSE NEIGHBOUR: 'it returns false'. Refute it at one input. -/
def fnDigitsConcatenationWrong : ChangeSpec := { name := "fnDigitsConcatenation", fn := fun _ => fun
  | [d1, d2] => { results := [.lit (.bool false)], args := [d1, d2] }
  | _ => none }
def FnDigitsConcatenationWrongFalsely : Prop := fnDigitsConcatenationRow.holds Try.pinned (OpenSpec.ofChange fnDigitsConcatenationWrong)

/-- 'zzlaws_internal_calendar_b1.FnDigitsOrderMatchesDecimalOrder': WHATEVER THE INPUT: true; the input reads as it did. -/
def fnDigitsOrderMatchesDecimalOrderSpec : ChangeSpec := { name := "fnDigitsOrderMatchesDecimalOrder", fn := fun _ => fun
  | [d1, d2] => { results := [.lit (.bool true)], args := [d1, d2] }
  | _ => none }
def fnDigitsOrderMatchesDecimalOrderRow : OpenClaim := { program := "qxb6619275a", sum := "1060c38b4ff0062628fcf8f8312ee0bbbf332502336a736dab0407d603e22ce0", func := "example.com/qikuan/qikuan/zzlaws_internal_calendar_b1.FnDigitsOrderMatchesDecimalOrder", spec := "fnDigitsOrderMatchesDecimalOrder", apart := false }
def FnDigitsOrderMatchesDecimalOrderSaid : Prop := fnDigitsOrderMatchesDecimalOrderRow.holds Try.pinned (OpenSpec.ofChange fnDigitsOrderMatchesDecimalOrderSpec)

/-- ITS FALSE NEIGHBOUR: 'it returns false'. Refute it at one input. -/
def fnDigitsOrderMatchesDecimalOrderWrong : ChangeSpec := { name := "fnDigitsOrderMatchesDecimalOrder", fn := fun _ => fun
  | [d1, d2] => { results := [.lit (.bool false)], args := [d1, d2] }
  | _ => none }
def FnDigitsOrderMatchesDecimalOrderWrongFalsely : Prop := fnDigitsOrderMatchesDecimalOrderRow.holds Try.pinned (OpenSpec.ofChange fnDigitsOrderMatchesDecimalOrderWrong)

/-- 'zzlaws_internal_calendar_b1.FnAfterComposes': WHATEVER THE INPUT: true; the input reads as it did. -/
def fnAfterComposesSpec : ChangeSpec := { name := "fnAfterComposes", fn := fun _ => fun
  | [d1, d2, d3, d4] => { results := [.lit (.bool true)], args := [d1, d2, d3, d4] }
  | _ => none }
def fnAfterComposesRow : OpenClaim := { program := "qxb6619275a", sum := "1060c38b4ff0062628fcf8f8312ee0bbbf332502336a736dab0407d603e22ce0", func := "example.com/qikuan/qikuan/zzlaws_internal_calendar_b1.FnAfterComposes", spec := "fnAfterComposes", apart := false }
def FnAfterComposesSaid : Prop := fnAfterComposesRow.holds Try.pinned (OpenSpec.ofChange fnAfterComposesSpec)

/-- ITS FALSE NEIGHBOUR: 'it returns false'. Refute it at one input. -/
def fnAfterComposesWrong : ChangeSpec := { name := "fnAfterComposes", fn := fun _ => fun
  | [d1, d2, d3, d4] => { results := [.lit (.bool false)], args := [d1, d2, d3, d4] }
  | _ => none }
def FnAfterComposesWrongFalsely : Prop := fnAfterComposesRow.holds Try.pinned (OpenSpec.ofChange fnAfterComposesWrong)

/-- 'zzlaws_internal_calendar_b1.FnAfterSteadyBetweenTradingDays': WHATEVER THE INPUT: true; the input reads as it did. -/
def fnAfterSteadyBetweenTradingDaysSpec : ChangeSpec := { name := "fnAfterSteadyBetweenTradingDays", fn := fun _ => fun
  | [d1, d2, d3, d4] => { results := [.lit (.bool true)], args := [d1, d2, d3, d4] }
  | _ => none }
def fnAfterSteadyBetweenTradingDaysRow : OpenClaim := { program := "qxb6619275a", sum := "1060c38b4ff0062628fcf8f8312ee0bbbf332502336a736dab0407d603e22ce0", func := "example.com/qikuan/qikuan/zzlaws_internal_calendar_b1.FnAfterSteadyBetweenTradingDays", spec := "fnAfterSteadyBetweenTradingDays", apart := false }
def FnAfterSteadyBetweenTradingDaysSaid : Prop := fnAfterSteadyBetweenTradingDaysRow.holds Try.pinned (OpenSpec.ofChange fnAfterSteadyBetweenTradingDaysSpec)

/-- ITS FALSE NEIGHBOUR: 'it returns false'. Refute it at one input. -/
def fnAfterSteadyBetweenTradingDaysWrong : ChangeSpec := { name := "fnAfterSteadyBetweenTradingDays", fn := fun _ => fun
  | [d1, d2, d3, d4] => { results := [.lit (.bool false)], args := [d1, d2, d3, d4] }
  | _ => none }
def FnAfterSteadyBetweenTradingDaysWrongFalsely : Prop := fnAfterSteadyBetweenTradingDaysRow.holds Try.pinned (OpenSpec.ofChange fnAfterSteadyBetweenTradingDaysWrong)

end Rows
end Go.Proofs.Qxb6619275a
