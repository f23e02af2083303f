/-
  No cell of these rows narrows 'for every input' (looked for: loops, veiled, ifaces, maps, wideKeys, modest, calm, conditions, laid).
  DERIVED. THE GIVEN ROWS OF THIS SEAT. 5 by the template 'for every input the law returns true; each argument reads behind the call as it read before'; 0 by the template 'total and deterministic' (their statements: Qxb6603793aTotals.lean).
  GIVEN WITH THE SEED: the statements are not yours to turn. If you find one false, say at which input.
  Laid BY PROGRAM, IN A SANDBOX (cutbox-rows.mjs): the forced cells as the released guide's own fill.sh prints them over the translation 7d822b62fb74fa65… (all of the seat's roots in one cut). By AI agents, Wed Nov 11 2026. No macro, syntax, notation, axiom, sorry.
-/
import Derived.Test.Qxb6603793aChecked
import GoSem.Claim
import GoSem.ClaimJoined
import GoSem.ClaimMapViews
import Derived.JoinedTies
import Derived.KernelRfl
namespace Go.Proofs.Qxb6603793a
/- THE CELL 'sum', in the pinned program and in every row, IS THE sha256 OF THE DUMP (.gsa) THAT Qxb6603793aProg.lean LOADS. Nothing in Lean hashes anything: it is a label: what it is worth is what the hold of that sum in a sandbox is worth. -/
noncomputable def Try.pinned : Pinned := { name := "qxb6603793a", sum := "7d822b62fb74fa65bd8f822734e9b842692aaa4064baa760d24f0424b8745f2b", checked := Try.checked }
namespace Rows
def none {H : Type} : Left H := { results := [], args := [] }

/-- 'zzlaws_internal_member_b1.FnDenialStringTellsDenialsApart': WHATEVER THE INPUT: true; the input reads as it did. -/
def fnDenialStringTellsDenialsApartSpec : ChangeSpec := { name := "fnDenialStringTellsDenialsApart", fn := fun _ => fun
  | [d1, d2] => { results := [.lit (.bool true)], args := [d1, d2] }
  | _ => none }
def fnDenialStringTellsDenialsApartRow : OpenClaim := { program := "qxb6603793a", sum := "7d822b62fb74fa65bd8f822734e9b842692aaa4064baa760d24f0424b8745f2b", func := "example.com/termfence/zzlaws_internal_member_b1.FnDenialStringTellsDenialsApart", spec := "fnDenialStringTellsDenialsApart", plainKeys := false, apart := false }
def FnDenialStringTellsDenialsApartSaid : Prop := fnDenialStringTellsDenialsApartRow.holds Try.pinned (OpenSpec.ofChange fnDenialStringTellsDenialsApartSpec)

/-- ITS FALSE NEIGHBOUR: 'it returns false'. Refute it at one input. -/
def fnDenialStringTellsDenialsApartWrong : ChangeSpec := { name := "fnDenialStringTellsDenialsApart", fn := fun _ => fun
  | [d1, d2] => { results := [.lit (.bool false)], args := [d1, d2] }
  | _ => none }
def FnDenialStringTellsDenialsApartWrongFalsely : Prop := fnDenialStringTellsDenialsApartRow.holds Try.pinned (OpenSpec.ofChange fnDenialStringTellsDenialsApartWrong)

/-- 'zzlaws_internal_member_b1.FnMadeByRebuildsTheMark': WHATEVER THE INPUT: true; the input reads as it did. -/
def fnMadeByRebuildsTheMarkSpec : ChangeSpec := { name := "fnMadeByRebuildsTheMark", fn := fun _ => fun
  | [d] => { results := [.lit (.bool true)], args := [d] }
  | _ => none }
def fnMadeByRebuildsTheMarkRow : OpenClaim := { program := "qxb6603793a", sum := "7d822b62fb74fa65bd8f822734e9b842692aaa4064baa760d24f0424b8745f2b", func := "example.com/termfence/zzlaws_internal_member_b1.FnMadeByRebuildsTheMark", spec := "fnMadeByRebuildsTheMark", plainKeys := false, apart := false }
def FnMadeByRebuildsTheMarkSaid : Prop := fnMadeByRebuildsTheMarkRow.holds Try.pinned (OpenSpec.ofChange fnMadeByRebuildsTheMarkSpec)

/-- ITS FALSE NEIGHBOUR: 'it returns false'. Refute it at one input. -/
def fnMadeByRebuildsTheMarkWrong : ChangeSpec := { name := "fnMadeByRebuildsTheMark", fn := fun _ => fun
  | [d] => { results := [.lit (.bool false)], args := [d] }
  | _ => none }
def FnMadeByRebuildsTheMarkWrongFalsely : Prop := fnMadeByRebuildsTheMarkRow.holds Try.pinned (OpenSpec.ofChange fnMadeByRebuildsTheMarkWrong)

/-- 'zzlaws_internal_member_b1.FnMadeByReadsBackEachKind': WHATEVER THE INPUT: true; the input reads as it did. -/
def fnMadeByReadsBackEachKindSpec : ChangeSpec := { name := "fnMadeByReadsBackEachKind", fn := fun _ => fun
  | [d] => { results := [.lit (.bool true)], args := [d] }
  | _ => none }
def fnMadeByReadsBackEachKindRow : OpenClaim := { program := "qxb6603793a", sum := "7d822b62fb74fa65bd8f822734e9b842692aaa4064baa760d24f0424b8745f2b", func := "example.com/termfence/zzlaws_internal_member_b1.FnMadeByReadsBackEachKind", spec := "fnMadeByReadsBackEachKind", plainKeys := false, apart := false }
def FnMadeByReadsBackEachKindSaid : Prop := fnMadeByReadsBackEachKindRow.holds Try.pinned (OpenSpec.ofChange fnMadeByReadsBackEachKindSpec)

/-- ITS FALSE NEIGHBOUR: 'it returns false'. Refute it at one input. -/
def fnMadeByReadsBackEachKindWrong : ChangeSpec := { name := "fnMadeByReadsBackEachKind", fn := fun _ => fun
  | [d] => { results := [.lit (.bool false)], args := [d] }
  | _ => none }
def FnMadeByReadsBackEachKindWrongFalsely : Prop := fnMadeByReadsBackEachKindRow.holds Try.pinned (OpenSpec.ofChange fnMadeByReadsBackEachKindWrong)

/-- 'zzlaws_internal_member_b1.FnHistoryAddKeepsLongestSuffixWithinLimit': WHATEVER THE INPUT: true; the input reads as it did. -/
def fnHistoryAddKeepsLongestSuffixWithinLimitSpec : ChangeSpec := { name := "fnHistoryAddKeepsLongestSuffixWithinLimit", fn := fun _ => fun
  | [d1, d2, d3, d4, d5, d6, d7, d8, d9, d10, d11] => { results := [.lit (.bool true)], args := [d1, d2, d3, d4, d5, d6, d7, d8, d9, d10, d11] }
  | _ => none }
def fnHistoryAddKeepsLongestSuffixWithinLimitRow : OpenClaim := { program := "qxb6603793a", sum := "7d822b62fb74fa65bd8f822734e9b842692aaa4064baa760d24f0424b8745f2b", func := "example.com/termfence/zzlaws_internal_member_b1.FnHistoryAddKeepsLongestSuffixWithinLimit", spec := "fnHistoryAddKeepsLongestSuffixWithinLimit", plainKeys := false, apart := false }
def FnHistoryAddKeepsLongestSuffixWithinLimitSaid : Prop := fnHistoryAddKeepsLongestSuffixWithinLimitRow.holds Try.pinned (OpenSpec.ofChange fnHistoryAddKeepsLongestSuffixWithinLimitSpec)

/-- ITS FALSE NEIGHBOUR: 'it returns false'. Refute it at one input. -/
def fnHistoryAddKeepsLongestSuffixWithinLimitWrong : ChangeSpec := { name := "fnHistoryAddKeepsLongestSuffixWithinLimit", fn := fun _ => fun
  | [d1, d2, d3, d4, d5, d6, d7, d8, d9, d10, d11] => { results := [.lit (.bool false)], args := [d1, d2, d3, d4, d5, d6, d7, d8, d9, d10, d11] }
  | _ => none }
def FnHistoryAddKeepsLongestSuffixWithinLimitWrongFalsely : Prop := fnHistoryAddKeepsLongestSuffixWithinLimitRow.holds Try.pinned (OpenSpec.ofChange fnHistoryAddKeepsLongestSuffixWithinLimitWrong)

/-- 'zzlaws_internal_member_b1.FnHistoryAddStaysWithinEachLimit': WHATEVER THE INPUT: true; the input reads as it did. -/
def fnHistoryAddStaysWithinEachLimitSpec : ChangeSpec := { name := "fnHistoryAddStaysWithinEachLimit", fn := fun _ => fun
  | [d1, d2, d3, d4, d5, d6, d7, d8, d9, d10, d11] => { results := [.lit (.bool true)], args := [d1, d2, d3, d4, d5, d6, d7, d8, d9, d10, d11] }
  | _ => none }
def fnHistoryAddStaysWithinEachLimitRow : OpenClaim := { program := "qxb6603793a", sum := "7d822b62fb74fa65bd8f822734e9b842692aaa4064baa760d24f0424b8745f2b", func := "example.com/termfence/zzlaws_internal_member_b1.FnHistoryAddStaysWithinEachLimit", spec := "fnHistoryAddStaysWithinEachLimit", plainKeys := false, apart := false }
def FnHistoryAddStaysWithinEachLimitSaid : Prop := fnHistoryAddStaysWithinEachLimitRow.holds Try.pinned (OpenSpec.ofChange fnHistoryAddStaysWithinEachLimitSpec)

/-- ITS FALSE NEIGHBOUR: 'it returns false'. Refute it at one input. -/
def fnHistoryAddStaysWithinEachLimitWrong : ChangeSpec := { name := "fnHistoryAddStaysWithinEachLimit", fn := fun _ => fun
  | [d1, d2, d3, d4, d5, d6, d7, d8, d9, d10, d11] => { results := [.lit (.bool false)], args := [d1, d2, d3, d4, d5, d6, d7, d8, d9, d10, d11] }
  | _ => none }
def FnHistoryAddStaysWithinEachLimitWrongFalsely : Prop := fnHistoryAddStaysWithinEachLimitRow.holds Try.pinned (OpenSpec.ofChange fnHistoryAddStaysWithinEachLimitWrong)

end Rows
end Go.Proofs.Qxb6603793a
