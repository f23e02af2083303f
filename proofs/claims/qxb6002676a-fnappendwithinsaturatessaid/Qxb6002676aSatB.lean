/-
  Seat b6002676a, FnAppendWithinSaturates: the walk of zzb1CloneData (17).
-/
import Derived.Test.Qxb6002676aSatA
import Derived.Deep.OwnRows
import Derived.WalkSpells
namespace Go.Proofs.Qxb6002676a.sat
open Go.RowKit Go.Deep

theorem info42 : (Try.prog.info? 42).map (fun i => (i.zero, i.size, i.bytes)) = some (some (.slice none 0 0), 1, 24) := by kernel_rfl
theorem info5 : (Try.prog.info? 5).map (fun i => (i.zero, i.size, i.bytes)) = some (some (.int .u8 0), 1, 1) := by kernel_rfl

/-- The elements of such a slice are readable: nil has no length; another's bytes lie at a plain address. -/
def Inner2 (w : World) (n : Nat) (A : Nat → Option Addr) (L : Nat → Nat) : Prop :=
  ∀ r, r < n → (A r = none → L r = 0) ∧ ∀ c, c < L r → ∃ b o z, A r = some ⟨b, o, none⟩ ∧ w.cell? ⟨b, o + c, none⟩ = some (.int .u8 z)

/-- Block B is a row of n slices; the first k have the lengths L; the rest are nil. -/
def Lens (w : World) (B n k : Nat) (L : Nat → Nat) : Prop :=
  ∃ f : Nat → Value, w.rowIs B 42 n f ∧ (∀ r, r < k → ∃ a c, f r = .slice a (L r) c) ∧ ∀ r, k ≤ r → f r = .slice none 0 0

def Post17 (w : World) (n : Nat) (L : Nat → Nat) (e : Ending) (w' : World) : Prop :=
  Below w.heap.size w w' ∧ ((n = 0 ∧ e = .returned (.slice none 0 0)) ∨ ∃ B, w.heap.size ≤ B ∧ e = .returned (.slice (some ⟨B, 0, none⟩) n n) ∧ Lens w' B n n L)

theorem lens_start (w : World) (n : Nat) (L : Nat → Nat) : Lens (w.alloc (.cells (madeCells #[.slice none 0 0] n) 42)) w.heap.size n 0 L :=
  ⟨fun _ => .slice none 0 0, World.rowIs_made _ _ _ _, fun _ hr => absurd hr (Nat.not_lt_zero _), fun _ _ => rfl⟩
theorem lens_of {w w' : World} {B n k : Nat} {L : Nat → Nat} (h : Lens w B n k L) (e : w'.heap[B]? = w.heap[B]?) : Lens w' B n k L := by
  obtain ⟨f, h1, h2, h3⟩ := h
  exact ⟨f, h1.of_block e, h2, h3⟩
theorem lens_nil {w : World} {B n k : Nat} {L : Nat → Nat} (h : Lens w B n k L) (hL : L k = 0) : Lens w B n (k + 1) L := by
  obtain ⟨f, h1, h2, h3⟩ := h
  refine ⟨f, h1, fun r hr => ?_, fun r hr => h3 r (by omega)⟩
  by_cases e : r = k
  · subst e; exact ⟨none, 0, by rw [h3 r (Nat.le_refl _), hL]⟩
  · exact h2 r (by omega)
theorem lens_set {w : World} {B n k : Nat} {L : Nat → Nat} (h : Lens w B n k L) (a : Option Addr) (c : Nat) : Lens (w.setCell ⟨B, k, none⟩ (.slice a (L k) c)) B n (k + 1) L := by
  obtain ⟨f, h1, h2, h3⟩ := h
  refine ⟨_, h1.set k _, fun r hr => ?_, fun r hr => ?_⟩
  · by_cases e : r = k
    · subst e; exact ⟨a, c, by simp⟩
    · rw [if_neg e]; exact h2 r (by omega)
  · rw [if_neg (by omega)]; exact h3 r (by omega)
theorem lens_cell {w : World} {B n k : Nat} {L : Nat → Nat} (h : Lens w B n k L) {i : Nat} (hi : i < n) : ∃ v, w.cell? ⟨B, i, none⟩ = some v := by
  obtain ⟨f, h1, _, _⟩ := h
  exact ⟨f i, h1.cell hi⟩
theorem lens_frozen {w : World} {B n k : Nat} {L : Nat → Nat} (h : Lens w B n k L) (i : Nat) : w.frozen? ⟨B, i, none⟩ = false := by
  obtain ⟨f, h1, _, _⟩ := h
  exact h1.frozen i
theorem lens_lt {w : World} {B n k : Nat} {L : Nat → Nat} (h : Lens w B n k L) : B < w.heap.size := by
  obtain ⟨f, h1, _, _⟩ := h
  exact h1.lt

/-- In the inner loop: what the outer one keeps, and the new row of bytes at block g. -/
def Mid (w wx : World) (g n k : Nat) (L : Nat → Nat) : Prop :=
  Below w.heap.size w wx ∧ Lens wx w.heap.size n k L ∧ ∃ f, wx.rowIs g 5 (L k) f
theorem mid_start {w wr : World} {n k : Nat} {L : Nat → Nat} (hb : Below w.heap.size w wr) (hl : Lens wr w.heap.size n k L) : Mid w (wr.alloc (.cells (madeCells #[.int .u8 0] (L k)) 5)) wr.heap.size n k L :=
  ⟨hb.alloc hb.size _, lens_of hl (blk_alloc_lt _ _ _ (lens_lt hl)), _, World.rowIs_made _ _ _ _⟩
theorem mid_set {w wx : World} {g n k : Nat} {L : Nat → Nat} (h : Mid w wx g n k L) (hg : w.heap.size < g) (m : Nat) (v : Value) : Mid w (wx.setCell ⟨g, m, none⟩ v) g n k L := by
  obtain ⟨hb, hl, f, hf⟩ := h
  exact ⟨hb.setCell (by show _ ≤ g; omega) v, lens_of hl (blk_setCell_other _ _ _ _ (by show _ ≠ g; omega)), _, hf.set m v⟩
theorem mid_done {w wx : World} {g n k : Nat} {L : Nat → Nat} (h : Mid w wx g n k L) : Below w.heap.size w (wx.setCell ⟨w.heap.size, k, none⟩ (.slice (some ⟨g, 0, none⟩) (L k) (L k))) ∧
    Lens (wx.setCell ⟨w.heap.size, k, none⟩ (.slice (some ⟨g, 0, none⟩) (L k) (L k))) w.heap.size n (k + 1) L := by
  obtain ⟨hb, hl, f, hf⟩ := h
  exact ⟨hb.setCell (Nat.le_refl _) _, lens_set hl _ _⟩

theorem clone_nil (w : World) (L : Nat → Nat) : Calls Try.prog 17 #[.slice none 0 0] w (Post17 w 0 L) := by
  have q33 : ∀ (w : World) (a : Option Addr) (n c n' c' : Nat), (binOp .eql 33 (.slice a n c) (.slice none n' c')).run Try.prog w = .ok (.bool a.isNone) w := fun w a n c n' c' => Lib.run_eql_slice_nil w _ _ a n c n' c' Try.underlying33
  go_enter Try.func17, Try.ntmps17
  go_wp2
  go_ret
  exact ⟨Below.refl _ _, .inl ⟨rfl, rfl⟩⟩

set_option maxHeartbeats 400000 in
theorem clone_any (x : Addr) (n c : Nat) (A : Nat → Option Addr) (L C : Nat → Nat) (w : World)
    (h0 : Rows2 w (some x) n A L C) (h1 : Inner2 w n A L) (hn : n ≤ 1048576) (hL : ∀ r, r < n → L r ≤ 1048576) :
    Calls Try.prog 17 #[.slice (some x) n c] w (Post17 w n L) := by
  have H0 : Hid (Rows2 w (some x) n A L C) := h0
  have H1 : Hid (Inner2 w n A L) := h1
  have HL : Hid (∀ r, r < n → L r ≤ 1048576) := hL
  clear h0 h1 hL
  have q33 : ∀ (w : World) (a : Option Addr) (n c n' c' : Nat), (binOp .eql 33 (.slice a n c) (.slice none n' c')).run Try.prog w = .ok (.bool a.isNone) w := fun w a n c n' c' => Lib.run_eql_slice_nil w _ _ a n c n' c' Try.underlying33
  have hmk := run_make_row' (P := Try.prog) 33 42 (.slice none 0 0) 24 Try.underlying33 info42 rfl .i64 .i64 n (by omega) (by omega)
  go_enter Try.func17, Try.ntmps17
  go_wp2
  clear hmk q33
  go_loopw [4] (fun i wr => ∃ k : Nat, k ≤ n ∧ i = .int .i64 k ∧ Below w.heap.size w wr ∧ Lens wr w.heap.size n k L) (fun i _ => n - (intOf i).toNat)
  case atStart => exact ⟨0, Nat.zero_le _, rfl, (Below.refl _ _).alloc (Nat.le_refl _) _, lens_start _ _ _⟩
  case round =>
    obtain ⟨k, hk, rfl, hb, hl⟩ := hrel
    by_cases hlt : k < n
    · obtain ⟨b, off, hx, hc⟩ := H0.out (by omega)
      obtain rfl : x = ⟨b, off, none⟩ := by simpa using hx
      clear hx
      have hbB : b < w.heap.size := World.block_lt_of_cell? _ _ (hc k hlt)
      have hck : wr.cell? ⟨b, off + k, none⟩ = some (.slice (A k) (L k) (C k)) := (hb.cell hbB).trans (hc k hlt)
      have hc' := hc
      clear hc
      have q42 : ∀ (w : World) (a : Option Addr) (n c n' c' : Nat), (binOp .neq 42 (.slice a n c) (.slice none n' c')).run Try.prog w = .ok (.bool (!a.isNone)) w := fun w a n c n' c' => run_neq_slice_nil_any w _ _ a n c n' c' Try.underlying42
      have hlk := HL.out k hlt
      obtain ⟨hi0, hi1⟩ := H1.out k hlt
      cases hA : A k with
      | none =>
        have hL0 := hi0 hA
        rw [hA] at hck
        clear hi0 hi1
        have R := lens_nil hl hL0
        clear hL0
        go_wp2
        go_roundw
        case rel => exact ⟨k + 1, by omega, by go_num, hb, R⟩
        case measure => simp [intOf]; omega
      | some y =>
        rw [hA] at hck
        have hmk := run_make_row' (P := Try.prog) 42 5 (.int .u8 0) 1 Try.underlying42 info5 rfl .i64 .i64 (L k) (by omega) (by omega)
        have hg : w.heap.size < wr.heap.size := lens_lt hl
        have hM := mid_start hb hl
        go_wp2
        clear hmk hck
        generalize wr.heap.size = g at *
        go_loopw [6] (fun j wx => ∃ m : Nat, m ≤ L k ∧ j = .int .i64 m ∧ Mid w wx g n k L) (fun j _ => L k - (intOf j).toNat)
        case atStart => exact ⟨0, Nat.zero_le _, rfl, hM⟩
        case round =>
          clear hM hb hl
          obtain ⟨m, hm, rfl, hM⟩ := hrel
          obtain ⟨hb, hl, f, hf⟩ := id hM
          have hck : wr.cell? ⟨b, off + k, none⟩ = some (.slice (some y) (L k) (C k)) := by rw [← hA]; exact (hb.cell hbB).trans (hc' k hlt)
          by_cases hlm : m < L k
          · obtain ⟨b', o', z, hy, hz⟩ := hi1 m hlm
            rw [hA] at hy
            obtain rfl : y = ⟨b', o', none⟩ := by simpa using hy
            have hcz : wr.cell? ⟨b', o' + m, none⟩ = some (.int .u8 z) := (hb.cell (World.block_lt_of_cell? _ _ hz)).trans hz
            have hs1 : wr.cell? ⟨g, m, none⟩ = some (f m) := hf.cell hlm
            have hs2 : wr.frozen? ⟨g, m, none⟩ = false := hf.frozen m
            have R := mid_set hM hg m (.int .u8 z)
            clear hi0 hi1 hy hz hf hA hM hb hl
            go_wp2
            go_roundw
            case rel => exact ⟨m + 1, by omega, by go_num, R⟩
            case measure => simp [intOf]; omega
          · have R := mid_done hM
            obtain ⟨v0, hs1⟩ := lens_cell hl hlt
            have hs2 := lens_frozen hl k
            clear hi0 hi1 hA hM hb hl hf
            go_wp2
            go_roundw
            case rel => exact ⟨k + 1, by omega, by go_num, R⟩
            case measure => simp [intOf]; omega
    · go_wp2
      go_ret
      obtain rfl : k = n := by omega
      exact ⟨hb, .inr ⟨_, Nat.le_refl _, rfl, hl⟩⟩
end Go.Proofs.Qxb6002676a.sat
