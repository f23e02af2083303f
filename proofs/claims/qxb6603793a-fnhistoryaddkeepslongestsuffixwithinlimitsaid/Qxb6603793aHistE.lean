/-
  Seat b6603793a: walks: Subject (43), changeSize (44).
-/
import Derived.Test.Qxb6603793aHistD
import Derived.BigRegion
namespace Go.Proofs.Qxb6603793a.hist
open Go.RowKit Go.Deep

def PostSub (w : World) (c : Chg) (e : Ending) (w' : World) : Prop := e = .returned (sub c.key c.lock) ∧ Below w.heap.size w w'
theorem subject_any (c : Chg) (w : World) : Calls Try.prog 43 #[.agg #[.int .u64 c.rev, .string c.key, .string c.val, .string c.lock, .string c.ev, .string c.hold, .int .u64 c.tok]] w (PostSub w c) := by
  go_enter Try.func43, Try.ntmps43
  go_wp2
  exact bodyPost_ret (v := sub c.key c.lock) (by simp [results, Try.results43, go_sem, sub]) rfl ⟨rfl, ((Below.refl _ _).alloc (Nat.le_refl _) _).alloc (by simp) _⟩

def PostSize (w : World) (c : Chg) (e : Ending) (w' : World) : Prop := e = .returned (.int .i64 (cost c : Nat)) ∧ Below w.heap.size w w'
theorem size_any (c : Chg) (w : World) (h : cost c ≤ 9223372036854775807) : Calls Try.prog 44 #[.agg #[.int .u64 c.rev, .string c.key, .string c.val, .string c.lock, .string c.ev, .string c.hold, .int .u64 c.tok]] w (PostSize w c) := by
  unfold cost at h
  go_enter Try.func44, Try.ntmps44
  go_wp2
  go_ret
  refine ⟨?_, ((Below.refl _ _).alloc (Nat.le_refl _) _)⟩
  unfold cost
  go_num
end Go.Proofs.Qxb6603793a.hist
