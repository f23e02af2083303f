/-
  No cell of these rows narrows 'for every input' (looked for: loops, veiled, ifaces, maps, wideKeys, modest, calm, conditions, laid).
  DERIVED. THE GIVEN ROWS OF THIS SEAT. 5 by the template 'for every input the law returns true; each argument reads behind the call as it read before'; 0 by the template 'total and deterministic' (their statements: Qxb6602615aTotals.lean).
  GIVEN WITH THE SEED: the statements are not yours to turn. If you find one false, say at which input.
  Laid BY PROGRAM, IN A SANDBOX (cutbox-rows.mjs): the forced cells as the released guide's own fill.sh prints them over the translation db0b56a7335d1e12… (all of the seat's roots in one cut). By AI agents, Wed Nov 11 2026. No macro, syntax, notation, axiom, sorry.
-/
import Derived.Test.Qxb6602615aChecked
import GoSem.Claim
import GoSem.ClaimJoined
import GoSem.ClaimMapViews
import Derived.JoinedTies
import Derived.KernelRfl
namespace Go.Proofs.Qxb6602615a
/- THE CELL 'sum', in the pinned program and in every row, IS THE sha256 OF THE DUMP (.gsa) THAT Qxb6602615aProg.lean LOADS. Nothing in Lean hashes anything: it is a label: what it is worth is what the hold of that sum in a sandbox is worth. -/
noncomputable def Try.pinned : Pinned := { name := "qxb6602615a", sum := "db0b56a7335d1e12328a64afdef04f01662d6f39668d199fb3cb26d3144cf560", checked := Try.checked }
namespace Rows
def none {H : Type} : Left H := { results := [], args := [] }

/-- 'zzlaws_root_b1.FnDecimalMatchesPositionalModel': WHATEVER THE INPUT: true; the input reads as it did. -/
def fnDecimalMatchesPositionalModelSpec : ChangeSpec := { name := "fnDecimalMatchesPositionalModel", fn := fun _ => fun
  | [d] => { results := [.lit (.bool true)], args := [d] }
  | _ => none }
def fnDecimalMatchesPositionalModelRow : OpenClaim := { program := "qxb6602615a", sum := "db0b56a7335d1e12328a64afdef04f01662d6f39668d199fb3cb26d3144cf560", func := "example.com/vigilant-trail/vigilant-trail/zzlaws_root_b1.FnDecimalMatchesPositionalModel", spec := "fnDecimalMatchesPositionalModel", apart := false }
def FnDecimalMatchesPositionalModelSaid : Prop := fnDecimalMatchesPositionalModelRow.holds Try.pinned (OpenSpec.ofChange fnDecimalMatchesPositionalModelSpec)

/-- ITS FALSE NEIGHBOUR: 'it returns false'. Refute it at one input. -/
def fnDecimalMatchesPositionalModelWrong : ChangeSpec := { name := "fnDecimalMatchesPositionalModel", fn := fun _ => fun
  | [d] => { results := [.lit (.bool false)], args := [d] }
  | _ => none }
def FnDecimalMatchesPositionalModelWrongFalsely : Prop := fnDecimalMatchesPositionalModelRow.holds Try.pinned (OpenSpec.ofChange fnDecimalMatchesPositionalModelWrong)

/-- 'zzlaws_root_b1.FnDecimalOfConcatenation': WHATEVER THE INPUT: true; the input reads as it did. -/
def fnDecimalOfConcatenationSpec : ChangeSpec := { name := "fnDecimalOfConcatenation", fn := fun _ => fun
  | [d1, d2] => { results := [.lit (.bool true)], args := [d1, d2] }
  | _ => none }
def fnDecimalOfConcatenationRow : OpenClaim := { program := "qxb6602615a", sum := "db0b56a7335d1e12328a64afdef04f01662d6f39668d199fb3cb26d3144cf560", func := "example.com/vigilant-trail/vigilant-trail/zzlaws_root_b1.FnDecimalOfConcatenation", spec := "fnDecimalOfConcatenation", apart := false }
def FnDecimalOfConcatenationSaid : Prop := fnDecimalOfConcatenationRow.holds Try.pinned (OpenSpec.ofChange fnDecimalOfConcatenationSpec)

/-- ITS FALSE NEIGHBOUR: 'it returns false'. Refute it at one input. -/
def fnDecimalOfConcatenationWrong : ChangeSpec := { name := "fnDecimalOfConcatenation", fn := fun _ => fun
  | [d1, d2] => { results := [.lit (.bool false)], args := [d1, d2] }
  | _ => none }
def FnDecimalOfConcatenationWrongFalsely : Prop := fnDecimalOfConcatenationRow.holds Try.pinned (OpenSpec.ofChange fnDecimalOfConcatenationWrong)

/-- 'zzlaws_root_b1.FnSkipDigitsStopsAtFirstNonDigit': WHATEVER THE INPUT: true; the input reads as it did. -/
def fnSkipDigitsStopsAtFirstNonDigitSpec : ChangeSpec := { name := "fnSkipDigitsStopsAtFirstNonDigit", fn := fun _ => fun
  | [d1, d2] => { results := [.lit (.bool true)], args := [d1, d2] }
  | _ => none }
def fnSkipDigitsStopsAtFirstNonDigitRow : OpenClaim := { program := "qxb6602615a", sum := "db0b56a7335d1e12328a64afdef04f01662d6f39668d199fb3cb26d3144cf560", func := "example.com/vigilant-trail/vigilant-trail/zzlaws_root_b1.FnSkipDigitsStopsAtFirstNonDigit", spec := "fnSkipDigitsStopsAtFirstNonDigit", apart := false }
def FnSkipDigitsStopsAtFirstNonDigitSaid : Prop := fnSkipDigitsStopsAtFirstNonDigitRow.holds Try.pinned (OpenSpec.ofChange fnSkipDigitsStopsAtFirstNonDigitSpec)

/-- ITS FALSE NEIGHBOUR: 'it returns false'. Refute it at one input. -/
def fnSkipDigitsStopsAtFirstNonDigitWrong : ChangeSpec := { name := "fnSkipDigitsStopsAtFirstNonDigit", fn := fun _ => fun
  | [d1, d2] => { results := [.lit (.bool false)], args := [d1, d2] }
  | _ => none }
def FnSkipDigitsStopsAtFirstNonDigitWrongFalsely : Prop := fnSkipDigitsStopsAtFirstNonDigitRow.holds Try.pinned (OpenSpec.ofChange fnSkipDigitsStopsAtFirstNonDigitWrong)

/-- 'zzlaws_root_b1.FnSkipDigitsMonotoneAndSameEndWithinRun': WHATEVER THE INPUT: true; the input reads as it did. -/
def fnSkipDigitsMonotoneAndSameEndWithinRunSpec : ChangeSpec := { name := "fnSkipDigitsMonotoneAndSameEndWithinRun", fn := fun _ => fun
  | [d1, d2, d3] => { results := [.lit (.bool true)], args := [d1, d2, d3] }
  | _ => none }
def fnSkipDigitsMonotoneAndSameEndWithinRunRow : OpenClaim := { program := "qxb6602615a", sum := "db0b56a7335d1e12328a64afdef04f01662d6f39668d199fb3cb26d3144cf560", func := "example.com/vigilant-trail/vigilant-trail/zzlaws_root_b1.FnSkipDigitsMonotoneAndSameEndWithinRun", spec := "fnSkipDigitsMonotoneAndSameEndWithinRun", apart := false }
def FnSkipDigitsMonotoneAndSameEndWithinRunSaid : Prop := fnSkipDigitsMonotoneAndSameEndWithinRunRow.holds Try.pinned (OpenSpec.ofChange fnSkipDigitsMonotoneAndSameEndWithinRunSpec)

/-- ITS FALSE NEIGHBOUR: 'it returns false'. Refute it at one input. -/
def fnSkipDigitsMonotoneAndSameEndWithinRunWrong : ChangeSpec := { name := "fnSkipDigitsMonotoneAndSameEndWithinRun", fn := fun _ => fun
  | [d1, d2, d3] => { results := [.lit (.bool false)], args := [d1, d2, d3] }
  | _ => none }
def FnSkipDigitsMonotoneAndSameEndWithinRunWrongFalsely : Prop := fnSkipDigitsMonotoneAndSameEndWithinRunRow.holds Try.pinned (OpenSpec.ofChange fnSkipDigitsMonotoneAndSameEndWithinRunWrong)

/-- 'zzlaws_root_b1.FnSkipDigitsSpanIsWhatDecimalAccepts': WHATEVER THE INPUT: true; the input reads as it did. -/
def fnSkipDigitsSpanIsWhatDecimalAcceptsSpec : ChangeSpec := { name := "fnSkipDigitsSpanIsWhatDecimalAccepts", fn := fun _ => fun
  | [d1, d2] => { results := [.lit (.bool true)], args := [d1, d2] }
  | _ => none }
def fnSkipDigitsSpanIsWhatDecimalAcceptsRow : OpenClaim := { program := "qxb6602615a", sum := "db0b56a7335d1e12328a64afdef04f01662d6f39668d199fb3cb26d3144cf560", func := "example.com/vigilant-trail/vigilant-trail/zzlaws_root_b1.FnSkipDigitsSpanIsWhatDecimalAccepts", spec := "fnSkipDigitsSpanIsWhatDecimalAccepts", apart := false }
def FnSkipDigitsSpanIsWhatDecimalAcceptsSaid : Prop := fnSkipDigitsSpanIsWhatDecimalAcceptsRow.holds Try.pinned (OpenSpec.ofChange fnSkipDigitsSpanIsWhatDecimalAcceptsSpec)

/-- ITS FALSE NEIGHBOUR: 'it returns false'. Refute it at one input. -/
def fnSkipDigitsSpanIsWhatDecimalAcceptsWrong : ChangeSpec := { name := "fnSkipDigitsSpanIsWhatDecimalAccepts", fn := fun _ => fun
  | [d1, d2] => { results := [.lit (.bool false)], args := [d1, d2] }
  | _ => none }
def FnSkipDigitsSpanIsWhatDecimalAcceptsWrongFalsely : Prop := fnSkipDigitsSpanIsWhatDecimalAcceptsRow.holds Try.pinned (OpenSpec.ofChange fnSkipDigitsSpanIsWhatDecimalAcceptsWrong)

end Rows
end Go.Proofs.Qxb6602615a
