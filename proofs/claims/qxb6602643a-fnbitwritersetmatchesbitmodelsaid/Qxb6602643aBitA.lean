/-
  Seat b6602643a: contracts of the small functions: the guard on length (9), setArgsOKB1 (10), cloneWordsB1 (11).
-/
import Derived.Test.Qxb6602643aRows
import Derived.WalkKit
import Derived.ProofKit
import Derived.Below
import Derived.Deep.OwnRows
import Derived.WalkSpells
namespace Go.Proofs.Qxb6602643a.bit
open Go.RowKit Go.Deep

/-- n words lie at a plain address, word i being Z i. -/
def Words (w : World) (a : Option Addr) (n : Nat) (Z : Nat → Nat) : Prop :=
  0 < n → ∃ b off, a = some ⟨b, off, none⟩ ∧ ∀ i, i < n → w.cell? ⟨b, off + i, none⟩ = some (.int .u64 (Z i : Nat))

def PostB (w : World) (n : Nat) (e : Ending) (w' : World) : Prop := ∃ b, e = .returned (.bool b) ∧ w' = w ∧ (b = true → n ≤ 1048576)

theorem zz9 (a : Option Addr) (n c : Nat) (a1 a2 a3 a4 : Int) (w : World) : Calls Try.prog 9 #[.slice a n c, .int .u64 a1, .int .u64 a2, .int .u64 a3, .int .i64 a4] w (PostB w n) := by
  by_cases h : 1048576 < n
  · go_enter Try.func9, Try.ntmps9
    go_wp2
    go_ret
    exact ⟨false, rfl, rfl, fun h => by cases h⟩
  · go_enter Try.func9, Try.ntmps9
    go_wp2
    go_ret
    exact ⟨true, rfl, rfl, fun _ => by omega⟩

theorem info30 : (Try.prog.info? 30).map (fun i => (i.zero, i.size, i.bytes)) = some (some (.int .u64 0), 1, 8) := by kernel_rfl

/-- Block B is a row of n words; the first k are Z's. -/
def Row (w : World) (B n k : Nat) (Z : Nat → Nat) : Prop := ∃ f : Nat → Value, w.rowIs B 30 n f ∧ ∀ i, i < k → f i = .int .u64 (Z i : Nat)
theorem row_set {w : World} {B n k : Nat} {Z : Nat → Nat} (h : Row w B n k Z) : Row (w.setCell ⟨B, k, none⟩ (.int .u64 (Z k : Nat))) B n (k + 1) Z := by
  obtain ⟨f, h1, h2⟩ := h
  refine ⟨_, h1.set k _, fun i hi => ?_⟩
  by_cases e : i = k
  · subst e; simp
  · exact (if_neg e).trans (h2 i (by omega))

/-- The copy is nil where the slice is, else a new row of the same words. -/
def PostC (w : World) (a : Option Addr) (n : Nat) (Z : Nat → Nat) (e : Ending) (w' : World) : Prop :=
  Below w.heap.size w w' ∧ ((a = none ∧ n = 0 ∧ e = .returned (.slice none 0 0)) ∨ (a ≠ none ∧ e = .returned (.slice (some ⟨w.heap.size, 0, none⟩) n n) ∧ w'.rowIs w.heap.size 30 n (fun i => .int .u64 (Z i : Nat))))

theorem clone_nil (w : World) (Z : Nat → Nat) : Calls Try.prog 11 #[.slice none 0 0] w (PostC w none 0 Z) := by
  have q29 : ∀ (w : World) (a : Option Addr) (n c n' c' : Nat), (binOp .eql 29 (.slice a n c) (.slice none n' c')).run Try.prog w = .ok (.bool a.isNone) w := fun w a n c n' c' => Lib.run_eql_slice_nil w _ _ a n c n' c' Try.underlying29
  go_enter Try.func11, Try.ntmps11
  go_wp2
  go_ret
  exact ⟨Below.refl _ _, .inl ⟨rfl, rfl, rfl⟩⟩

theorem clone_some (x : Addr) (n c : Nat) (Z : Nat → Nat) (w : World) (hn : n ≤ 1048576) (h : Words w (some x) n Z) : Calls Try.prog 11 #[.slice (some x) n c] w (PostC w (some x) n Z) := by
  have H : Hid (Words w (some x) n Z) := h
  clear h
  have q29 : ∀ (w : World) (a : Option Addr) (n c n' c' : Nat), (binOp .eql 29 (.slice a n c) (.slice none n' c')).run Try.prog w = .ok (.bool a.isNone) w := fun w a n c n' c' => Lib.run_eql_slice_nil w _ _ a n c n' c' Try.underlying29
  have hmk := run_make_row' (P := Try.prog) 29 30 (.int .u64 0) 8 Try.underlying29 info30 rfl .i64 .i64 n (by omega) (by omega)
  go_enter Try.func11, Try.ntmps11
  go_wp2
  clear hmk q29
  go_loopw [4] (fun i wr => ∃ k : Nat, k ≤ n ∧ i = .int .i64 k ∧ Below w.heap.size w wr ∧ Row wr w.heap.size n k Z) (fun i _ => n - (intOf i).toNat)
  case atStart => exact ⟨0, Nat.zero_le _, rfl, (Below.refl _ _).alloc (Nat.le_refl _) _, _, World.rowIs_made _ _ _ _, fun _ hi => absurd hi (Nat.not_lt_zero _)⟩
  case round =>
    obtain ⟨k, hk, rfl, hb, hr⟩ := hrel
    by_cases hlt : k < n
    · obtain ⟨b, off, hx, hc⟩ := H.out (by omega)
      obtain rfl : x = ⟨b, off, none⟩ := by simpa using hx
      have hck : wr.cell? ⟨b, off + k, none⟩ = some (.int .u64 (Z k : Nat)) := (hb.cell (World.block_lt_of_cell? _ _ (hc k hlt))).trans (hc k hlt)
      clear hc hx
      have R := row_set hr
      have R2 := fun v => hb.setCell (p := ⟨w.heap.size, k, none⟩) (Nat.le_refl _) v
      obtain ⟨f, hf, _⟩ := hr
      have s1 := hf.cell hlt
      have s2 := hf.frozen k
      clear hf hb
      go_wp2
      go_roundw
      case rel => exact ⟨k + 1, by omega, by go_num, R2 _, R⟩
      case measure => simp [intOf]; omega
    · obtain rfl : n = k := by omega
      go_wp2
      go_ret
      obtain ⟨f, hf, he⟩ := hr
      exact ⟨hb, .inr ⟨(fun h => by cases h), rfl, hf.congr he⟩⟩

theorem clone_all (a : Option Addr) (n c : Nat) (Z : Nat → Nat) (w : World) (hn : n ≤ 1048576) (hnil : a = none → n = 0 ∧ c = 0) (h : Words w a n Z) : Calls Try.prog 11 #[.slice a n c] w (PostC w a n Z) := by
  cases a with
  | none =>
    obtain ⟨rfl, rfl⟩ := hnil rfl
    exact clone_nil w Z
  | some x => exact clone_some x n c Z w hn h

/-- setArgsOKB1 says yes only where 0 ≤ width ≤ 64 and v is clear above width. -/
def PostA (w : World) (v width : Int) (e : Ending) (w' : World) : Prop := ∃ b, e = .returned (.bool b) ∧ w' = w ∧ (b = true → 0 ≤ width ∧ width ≤ 64 ∧ v < 2 ^ width.toNat)
theorem lt_of_shr {v : Int} {k : Nat} (h : v / 2 ^ k = 0) : v < 2 ^ ((k : Int)).toNat := by
  have hp : (0 : Int) < 2 ^ k := Int.pow_pos (by decide)
  have h1 := Int.mul_ediv_add_emod v (2 ^ k)
  have h2 := Int.emod_lt_of_pos v hp
  rw [h, Int.mul_zero, Int.zero_add] at h1
  rw [Int.toNat_natCast]
  omega
set_option maxHeartbeats 400000 in
theorem args_any (v width : Int) (w : World) (_h0 : 0 ≤ v) (h1 : v < 18446744073709551616) : Calls Try.prog 10 #[.int .u64 v, .int .i64 width] w (PostA w v width) := by
  by_cases g0 : width < 0
  · go_enter Try.func10, Try.ntmps10
    go_wp2
    go_ret
    exact ⟨false, rfl, rfl, fun h => by cases h⟩
  · by_cases g1 : 64 < width
    · go_enter Try.func10, Try.ntmps10
      go_wp2
      go_ret
      exact ⟨false, rfl, rfl, fun h => by cases h⟩
    · obtain ⟨k, rfl⟩ := Int.eq_ofNat_of_zero_le (show 0 ≤ width by omega)
      by_cases g2 : (k : Int) < 64
      · go_enter Try.func10, Try.ntmps10
        go_wp2
        · go_ret
          exact ⟨false, rfl, rfl, fun h => by cases h⟩
        · have hz : (v / 2 ^ k != 0) = false := by assumption
          go_ret
          exact ⟨true, rfl, rfl, fun _ => ⟨by omega, by omega, lt_of_shr (by simpa using hz)⟩⟩
      · go_enter Try.func10, Try.ntmps10
        go_wp2
        go_ret
        obtain rfl : k = 64 := by omega
        exact ⟨true, rfl, rfl, fun _ => ⟨by omega, by omega, h1⟩⟩
end Go.Proofs.Qxb6602643a.bit
