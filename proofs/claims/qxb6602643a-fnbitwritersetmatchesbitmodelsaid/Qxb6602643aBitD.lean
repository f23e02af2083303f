/-
  Seat b6602643a: ZZBitWriterSet (12).
-/
import Derived.Test.Qxb6602643aBitC
import Derived.Deep.QuietTactic
import Derived.BigQuiet
namespace Go.Proofs.Qxb6602643a.bit
open Go.RowKit Go.Deep

theorem kept2_alloc {g : Nat} {w w' : World} {o : Obj} (h : Kept2 g w.heap.size (w.alloc o) w') : Kept2 g w.heap.size w w' := by
  obtain ⟨h1, h2, h3, h4, h5⟩ := h
  rw [nblk_alloc] at h4
  refine ⟨h1, h2, h3, by omega, fun b hb hg hp' => ?_⟩
  rw [h5 b (by rw [nblk_alloc]; omega) hg hp', blk_alloc_lt _ _ _ hb]

theorem set_zero (a : Addr) (at_ v : Int) (w : World) : Calls Try.prog 21 #[.pointer (some a), .int .u64 at_, .int .u64 v, .int .i64 0] w fun e w' => e = .returned (.tuple #[]) ∧ w' = w := by
  go_enter Try.func21, Try.ntmps21
  go_wp2
  refine bodyPost_ret (results_none rfl _ _ _) rfl ?_
  exact ⟨rfl, rfl⟩

set_option maxHeartbeats 400000 in
/-- A width of zero changes nothing. -/
theorem zzset_none (sp : Option Addr) (len : Nat) (n at_ v : Int) (w : World) :
    Calls Try.prog 12 #[.slice sp len len, .int .u64 n, .int .u64 at_, .int .u64 v, .int .i64 0] w fun e w' => e = .returned (.tuple #[.slice sp len len, .int .u64 n]) ∧ Below w.heap.size w w' := by
  go_enter Try.func12, Try.ntmps12
  go_wp2_with fail
  refine (set_zero _ _ _ _).mono ?_
  rintro e w' ⟨rfl, rfl⟩
  go_wp2
  go_region
  all_goals go_wp2
  all_goals go_ret2
  exact ⟨rfl, ((Below.refl _ _).alloc (Nat.le_refl _) _).drew⟩

/-- What the writer holds at the end: the words N, len of them. -/
def PostZ (w : World) (g len at_ wd n : Nat) (N : Nat → Nat) (e : Ending) (w' : World) : Prop :=
  Kept2 g w.heap.size w w' ∧ ∃ g', e = .returned (.tuple #[.slice (some ⟨g', 0, none⟩) len len, .int .u64 ((if n < at_ + wd then at_ + wd else n : Nat) : Nat)]) ∧ w'.rowIs g' 30 len (fun i => .int .u64 (N i : Nat))

set_option maxHeartbeats 400000 in
/-- Out of set's contract. -/
theorem zzset_of (sp : Option Addr) (g len len' n at_ v wd : Nat) (N : Nat → Nat) (w : World)
    (h : ∀ c, c = #[Value.slice sp len len, .int .u64 (n : Nat)] → Calls Try.prog 21 #[.pointer (some ⟨w.heap.size, 0, none⟩), .int .u64 at_, .int .u64 v, .int .i64 wd] (w.alloc (.cells c 57)) (PostS g w.heap.size len' at_ wd n N (w.alloc (.cells c 57)))) :
    Calls Try.prog 12 #[.slice sp len len, .int .u64 n, .int .u64 at_, .int .u64 v, .int .i64 wd] w (PostZ w g len' at_ wd n N) := by
  have H : Hid (∀ c, c = #[Value.slice sp len len, .int .u64 (n : Nat)] → Calls Try.prog 21 #[.pointer (some ⟨w.heap.size, 0, none⟩), .int .u64 at_, .int .u64 v, .int .i64 wd] (w.alloc (.cells c 57)) (PostS g w.heap.size len' at_ wd n N (w.alloc (.cells c 57)))) := h
  clear h
  go_enter Try.func12, Try.ntmps12
  go_wp2_with fail
  refine (H.out _ rfl).mono ?_
  rintro e w' ⟨rfl, hk, g', hgp, c0, c1, hrow⟩
  have HR : Hid (Kept2 g w.heap.size w w' ∧ w'.rowIs g' 30 len' (fun i => .int .u64 (N i : Nat))) := ⟨kept2_alloc hk, hrow⟩
  clear hk hrow
  generalize hmx : (if n < at_ + wd then at_ + wd else n : Nat) = mx at *
  have HM : Hid ((if n < at_ + wd then at_ + wd else n : Nat) = mx) := hmx
  clear hmx
  go_wp2
  go_region
  all_goals go_wp2
  all_goals go_ret2
  exact ⟨kept2_drew HR.out.1, g', by rw [HM.out]; rfl, HR.out.2⟩
end Go.Proofs.Qxb6602643a.bit
