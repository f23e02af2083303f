/-
  No cell of these rows narrows 'for every input' (looked for: loops, veiled, ifaces, maps, wideKeys, modest, calm, conditions, laid).
  DERIVED. THE GIVEN ROWS OF THIS SEAT. 6 by the template 'for every input the law returns true; each argument reads behind the call as it read before'; 0 by the template 'total and deterministic' (their statements: Qxb6002676aTotals.lean).
  GIVEN WITH THE SEED: the statements are not yours to turn. If you find one false, say at which input.
  Laid BY PROGRAM, IN A SANDBOX (cutbox-rows.mjs): the forced cells as the released guide's own fill.sh prints them over the translation 1e59a0395c84fe4a… (all of the seat's roots in one cut). By AI agents, Wed Nov 11 2026. No macro, syntax, notation, axiom, sorry.
-/
import Derived.Test.Qxb6002676aChecked
import GoSem.Claim
import GoSem.ClaimJoined
import GoSem.ClaimMapViews
import Derived.JoinedTies
import Derived.KernelRfl
namespace Go.Proofs.Qxb6002676a
/- THE CELL 'sum', in the pinned program and in every row, IS THE sha256 OF THE DUMP (.gsa) THAT Qxb6002676aProg.lean LOADS. Nothing in Lean hashes anything: it is a label: what it is worth is what the hold of that sum in a sandbox is worth. -/
noncomputable def Try.pinned : Pinned := { name := "qxb6002676a", sum := "1e59a0395c84fe4aedbe9b858ec3fb6cf4f74a52199e5331805d781af9907f30", checked := Try.checked }
namespace Rows
def none {H : Type} : Left H := { results := [], args := [] }

/-- 'zzlaws_internal_raft_b1.FnProgressAckedScriptMatchIsRunningMax': WHATEVER THE INPUT: true; the input reads as it did. -/
def fnProgressAckedScriptMatchIsRunningMaxSpec : ChangeSpec := { name := "fnProgressAckedScriptMatchIsRunningMax", fn := fun _ => fun
  | [d1, d2, d3, d4, d5, d6, d7, d8, d9, d10, d11, d12] => { results := [.lit (.bool true)], args := [d1, d2, d3, d4, d5, d6, d7, d8, d9, d10, d11, d12] }
  | _ => none }
def fnProgressAckedScriptMatchIsRunningMaxRow : OpenClaim := { program := "qxb6002676a", sum := "1e59a0395c84fe4aedbe9b858ec3fb6cf4f74a52199e5331805d781af9907f30", func := "example.com/quorumlog/quorumlog/zzlaws_internal_raft_b1.FnProgressAckedScriptMatchIsRunningMax", spec := "fnProgressAckedScriptMatchIsRunningMax", apart := false }
def FnProgressAckedScriptMatchIsRunningMaxSaid : Prop := fnProgressAckedScriptMatchIsRunningMaxRow.holds Try.pinned (OpenSpec.ofChange fnProgressAckedScriptMatchIsRunningMaxSpec)

/-- ITS FALSE NEIGHBOUR: 'it returns false'. Refute it at one input. -/
def fnProgressAckedScriptMatchIsRunningMaxWrong : ChangeSpec := { name := "fnProgressAckedScriptMatchIsRunningMax", fn := fun _ => fun
  | [d1, d2, d3, d4, d5, d6, d7, d8, d9, d10, d11, d12] => { results := [.lit (.bool false)], args := [d1, d2, d3, d4, d5, d6, d7, d8, d9, d10, d11, d12] }
  | _ => none }
def FnProgressAckedScriptMatchIsRunningMaxWrongFalsely : Prop := fnProgressAckedScriptMatchIsRunningMaxRow.holds Try.pinned (OpenSpec.ofChange fnProgressAckedScriptMatchIsRunningMaxWrong)

/-- 'zzlaws_internal_raft_b1.FnProgressAckedIdempotent': WHATEVER THE INPUT: true; the input reads as it did. -/
def fnProgressAckedIdempotentSpec : ChangeSpec := { name := "fnProgressAckedIdempotent", fn := fun _ => fun
  | [d1, d2, d3, d4, d5, d6, d7, d8, d9, d10, d11, d12] => { results := [.lit (.bool true)], args := [d1, d2, d3, d4, d5, d6, d7, d8, d9, d10, d11, d12] }
  | _ => none }
def fnProgressAckedIdempotentRow : OpenClaim := { program := "qxb6002676a", sum := "1e59a0395c84fe4aedbe9b858ec3fb6cf4f74a52199e5331805d781af9907f30", func := "example.com/quorumlog/quorumlog/zzlaws_internal_raft_b1.FnProgressAckedIdempotent", spec := "fnProgressAckedIdempotent", apart := false }
def FnProgressAckedIdempotentSaid : Prop := fnProgressAckedIdempotentRow.holds Try.pinned (OpenSpec.ofChange fnProgressAckedIdempotentSpec)

/-- ITS FALSE NEIGHBOUR: 'it returns false'. Refute it at one input. -/
def fnProgressAckedIdempotentWrong : ChangeSpec := { name := "fnProgressAckedIdempotent", fn := fun _ => fun
  | [d1, d2, d3, d4, d5, d6, d7, d8, d9, d10, d11, d12] => { results := [.lit (.bool false)], args := [d1, d2, d3, d4, d5, d6, d7, d8, d9, d10, d11, d12] }
  | _ => none }
def FnProgressAckedIdempotentWrongFalsely : Prop := fnProgressAckedIdempotentRow.holds Try.pinned (OpenSpec.ofChange fnProgressAckedIdempotentWrong)

/-- 'zzlaws_internal_raft_b1.FnProgressAckedStreamingTrimsInflight': WHATEVER THE INPUT: true; the input reads as it did. -/
def fnProgressAckedStreamingTrimsInflightSpec : ChangeSpec := { name := "fnProgressAckedStreamingTrimsInflight", fn := fun _ => fun
  | [d1, d2, d3, d4, d5] => { results := [.lit (.bool true)], args := [d1, d2, d3, d4, d5] }
  | _ => none }
def fnProgressAckedStreamingTrimsInflightRow : OpenClaim := { program := "qxb6002676a", sum := "1e59a0395c84fe4aedbe9b858ec3fb6cf4f74a52199e5331805d781af9907f30", func := "example.com/quorumlog/quorumlog/zzlaws_internal_raft_b1.FnProgressAckedStreamingTrimsInflight", spec := "fnProgressAckedStreamingTrimsInflight", apart := false }
def FnProgressAckedStreamingTrimsInflightSaid : Prop := fnProgressAckedStreamingTrimsInflightRow.holds Try.pinned (OpenSpec.ofChange fnProgressAckedStreamingTrimsInflightSpec)

/-- ITS FALSE NEIGHBOUR: 'it returns false'. Refute it at one input. -/
def fnProgressAckedStreamingTrimsInflightWrong : ChangeSpec := { name := "fnProgressAckedStreamingTrimsInflight", fn := fun _ => fun
  | [d1, d2, d3, d4, d5] => { results := [.lit (.bool false)], args := [d1, d2, d3, d4, d5] }
  | _ => none }
def FnProgressAckedStreamingTrimsInflightWrongFalsely : Prop := fnProgressAckedStreamingTrimsInflightRow.holds Try.pinned (OpenSpec.ofChange fnProgressAckedStreamingTrimsInflightWrong)

/-- 'zzlaws_internal_raft_b1.FnAppendWithinExact': WHATEVER THE INPUT: true; the input reads as it did. -/
def fnAppendWithinExactSpec : ChangeSpec := { name := "fnAppendWithinExact", fn := fun _ => fun
  | [d1, d2, d3] => { results := [.lit (.bool true)], args := [d1, d2, d3] }
  | _ => none }
def fnAppendWithinExactRow : OpenClaim := { program := "qxb6002676a", sum := "1e59a0395c84fe4aedbe9b858ec3fb6cf4f74a52199e5331805d781af9907f30", func := "example.com/quorumlog/quorumlog/zzlaws_internal_raft_b1.FnAppendWithinExact", spec := "fnAppendWithinExact", apart := false }
def FnAppendWithinExactSaid : Prop := fnAppendWithinExactRow.holds Try.pinned (OpenSpec.ofChange fnAppendWithinExactSpec)

/-- ITS FALSE NEIGHBOUR: 'it returns false'. Refute it at one input. -/
def fnAppendWithinExactWrong : ChangeSpec := { name := "fnAppendWithinExact", fn := fun _ => fun
  | [d1, d2, d3] => { results := [.lit (.bool false)], args := [d1, d2, d3] }
  | _ => none }
def FnAppendWithinExactWrongFalsely : Prop := fnAppendWithinExactRow.holds Try.pinned (OpenSpec.ofChange fnAppendWithinExactWrong)

/-- 'zzlaws_internal_raft_b1.FnAppendWithinMonotoneInBudget': WHATEVER THE INPUT: true; the input reads as it did. -/
def fnAppendWithinMonotoneInBudgetSpec : ChangeSpec := { name := "fnAppendWithinMonotoneInBudget", fn := fun _ => fun
  | [d1, d2, d3, d4] => { results := [.lit (.bool true)], args := [d1, d2, d3, d4] }
  | _ => none }
def fnAppendWithinMonotoneInBudgetRow : OpenClaim := { program := "qxb6002676a", sum := "1e59a0395c84fe4aedbe9b858ec3fb6cf4f74a52199e5331805d781af9907f30", func := "example.com/quorumlog/quorumlog/zzlaws_internal_raft_b1.FnAppendWithinMonotoneInBudget", spec := "fnAppendWithinMonotoneInBudget", apart := false }
def FnAppendWithinMonotoneInBudgetSaid : Prop := fnAppendWithinMonotoneInBudgetRow.holds Try.pinned (OpenSpec.ofChange fnAppendWithinMonotoneInBudgetSpec)

/-- ITS FALSE NEIGHBOUR: 'it returns false'. Refute it at one input. -/
def fnAppendWithinMonotoneInBudgetWrong : ChangeSpec := { name := "fnAppendWithinMonotoneInBudget", fn := fun _ => fun
  | [d1, d2, d3, d4] => { results := [.lit (.bool false)], args := [d1, d2, d3, d4] }
  | _ => none }
def FnAppendWithinMonotoneInBudgetWrongFalsely : Prop := fnAppendWithinMonotoneInBudgetRow.holds Try.pinned (OpenSpec.ofChange fnAppendWithinMonotoneInBudgetWrong)

/-- 'zzlaws_internal_raft_b1.FnAppendWithinSaturates': WHATEVER THE INPUT: true; the input reads as it did. -/
def fnAppendWithinSaturatesSpec : ChangeSpec := { name := "fnAppendWithinSaturates", fn := fun _ => fun
  | [d1, d2, d3] => { results := [.lit (.bool true)], args := [d1, d2, d3] }
  | _ => none }
def fnAppendWithinSaturatesRow : OpenClaim := { program := "qxb6002676a", sum := "1e59a0395c84fe4aedbe9b858ec3fb6cf4f74a52199e5331805d781af9907f30", func := "example.com/quorumlog/quorumlog/zzlaws_internal_raft_b1.FnAppendWithinSaturates", spec := "fnAppendWithinSaturates", apart := false }
def FnAppendWithinSaturatesSaid : Prop := fnAppendWithinSaturatesRow.holds Try.pinned (OpenSpec.ofChange fnAppendWithinSaturatesSpec)

/-- ITS FALSE NEIGHBOUR: 'it returns false'. Refute it at one input. -/
def fnAppendWithinSaturatesWrong : ChangeSpec := { name := "fnAppendWithinSaturates", fn := fun _ => fun
  | [d1, d2, d3] => { results := [.lit (.bool false)], args := [d1, d2, d3] }
  | _ => none }
def FnAppendWithinSaturatesWrongFalsely : Prop := fnAppendWithinSaturatesRow.holds Try.pinned (OpenSpec.ofChange fnAppendWithinSaturatesWrong)

end Rows
end Go.Proofs.Qxb6002676a
