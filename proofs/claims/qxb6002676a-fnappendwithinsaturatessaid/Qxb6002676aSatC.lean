/-
  Seat b6002676a, FnAppendWithinSaturates: the walks of zzb1Entries (18) and zzb1CloneEntries (25).
-/
import Derived.Test.Qxb6002676aSatB
namespace Go.Proofs.Qxb6002676a.sat
open Go.RowKit Go.Deep

def z44 : Value := .agg #[.int .u64 0, .int .u64 0, .int .u8 0, .slice none 0 0]
theorem info44 : (Try.prog.info? 44).map (fun i => (i.zero, i.size, i.bytes)) = some (some z44, 4, 48) := by kernel_rfl
/-- What make lays for n entries. -/
def made44 (n : Nat) : Obj := .cells (madeCells z44.cells (n * 4)) 44
theorem run_make44 (n : Nat) (hn : n ≤ 4194304) (w : World) :
    (Instr.makeSlice 37 (.int .i64 (n : Int)) (.int .i64 (n : Int))).run Try.prog w = .ok (.slice (some ⟨w.heap.size, 0, none⟩) n n) (w.alloc (made44 n)) := by
  obtain ⟨i, hi, hz, hs, hb⟩ := info_parts info44
  have h := run_make (P := Try.prog) w 37 44 i z44 Try.underlying37 hi hz .i64 .i64 n n (by omega) (Int.le_refl _) (by rw [hb]; omega) (by omega)
  rw [hs] at h
  unfold made44
  simpa using h

/-- The cells of entry i, among cells f: its data has length l. -/
def Ent4 (f : Nat → Value) (i l : Nat) : Prop :=
  ∃ (p q r : Int) (a : Option Addr) (c : Nat), f (i * 4) = .int .u64 p ∧ f (i * 4 + 1) = .int .u64 q ∧ f (i * 4 + 2) = .int .u8 r ∧ f (i * 4 + 3) = .slice a l c

/-- Block g is a row of n entries; the data of the first k have the lengths L. -/
def Ents (w : World) (g n k : Nat) (L : Nat → Nat) : Prop :=
  ∃ f : Nat → Value, w.rowIs g 44 (n * 4) f ∧ ∀ i, i < k → Ent4 f i (L i)

theorem ents_start (w : World) (n : Nat) (L : Nat → Nat) : Ents (w.alloc (made44 n)) w.heap.size n 0 L := by
  refine ⟨fun i => (madeCells z44.cells (n * 4)).getD i undef, ⟨_, blk_alloc_new _ _, size_madeCells _ _, fun i hi => ?_⟩, fun _ hr => absurd hr (Nat.not_lt_zero _)⟩
  have hs : i < (madeCells z44.cells (n * 4)).size := by rw [size_madeCells]; exact hi
  simp [Array.getD, hs]
theorem ents_of {w w' : World} {g n k : Nat} {L : Nat → Nat} (h : Ents w g n k L) (e : w'.heap[g]? = w.heap[g]?) : Ents w' g n k L := by
  obtain ⟨f, h1, h2⟩ := h
  exact ⟨f, h1.of_block e, h2⟩
/-- The world behind the store of an entry at index k of block g. -/
def set4 (w : World) (g k : Nat) (p q r : Int) (s : Value) : World :=
  (((w.setCell ⟨g, k * 4, none⟩ (.int .u64 p)).setCell ⟨g, k * 4 + 1, none⟩ (.int .u64 q)).setCell ⟨g, k * 4 + 2, none⟩ (.int .u8 r)).setCell ⟨g, k * 4 + 3, none⟩ s
theorem ents_set {w : World} {g n k : Nat} {L : Nat → Nat} (h : Ents w g n k L) (p q r : Int) (a : Option Addr) (c : Nat) :
    Ents (set4 w g k p q r (.slice a (L k) c)) g n (k + 1) L := by
  obtain ⟨f, h1, h2⟩ := h
  refine ⟨_, (((h1.set (k * 4) _).set (k * 4 + 1) _).set (k * 4 + 2) _).set (k * 4 + 3) _, fun i hi => ?_⟩
  by_cases e : i = k
  · subst e; exact ⟨p, q, r, a, c, by simp, by simp, by simp, by simp⟩
  · obtain ⟨p', q', r', a', c', e0, e1, e2, e3⟩ := h2 i (by omega)
    refine ⟨p', q', r', a', c', ?_, ?_, ?_, ?_⟩
    all_goals
      refine (if_neg (by omega)).trans ((if_neg (by omega)).trans ((if_neg (by omega)).trans ((if_neg (by omega)).trans ?_)))
      assumption
theorem below_set4 {B : Nat} {w wr : World} (h : Below B w wr) {g : Nat} (hg : B ≤ g) (k : Nat) (p q r : Int) (s : Value) :
    Below B w (set4 wr g k p q r s) :=
  (((h.setCell (by exact hg) _).setCell (by exact hg) _).setCell (by exact hg) _).setCell (by exact hg) s
theorem ents_cells {w : World} {g n k : Nat} {L : Nat → Nat} (h : Ents w g n k L) {i : Nat} (hi : i < n) :
    ∃ p q r s, w.cell? ⟨g, i * 4, none⟩ = some p ∧ w.cell? ⟨g, i * 4 + 1, none⟩ = some q ∧ w.cell? ⟨g, i * 4 + 2, none⟩ = some r ∧ w.cell? ⟨g, i * 4 + 3, none⟩ = some s := by
  obtain ⟨f, h1, h2⟩ := h
  exact ⟨_, _, _, _, h1.cell (by omega), h1.cell (by omega), h1.cell (by omega), h1.cell (by omega)⟩
theorem ents_frozen {w : World} {g n k : Nat} {L : Nat → Nat} (h : Ents w g n k L) (j : Nat) : w.frozen? ⟨g, j, none⟩ = false := by
  obtain ⟨f, h1, _⟩ := h
  exact h1.frozen j
theorem ents_lt {w : World} {g n k : Nat} {L : Nat → Nat} (h : Ents w g n k L) : g < w.heap.size := by
  obtain ⟨f, h1, _⟩ := h
  exact h1.lt

def PostE (w : World) (n : Nat) (L : Nat → Nat) (e : Ending) (w' : World) : Prop :=
  Below w.heap.size w w' ∧ e = .returned (.slice (some ⟨w.heap.size, 0, none⟩) n n) ∧ Ents w' w.heap.size n n L

set_option maxHeartbeats 400000 in
theorem entries_nil (tm : Int) (L : Nat → Nat) (w : World) : Calls Try.prog 18 #[.slice none 0 0, .int .u64 tm] w (PostE w 0 L) := by
  have hmk : ∀ w, (Instr.makeSlice 37 (.int .i64 0) (.int .i64 0)).run Try.prog w = .ok (.slice (some ⟨w.heap.size, 0, none⟩) 0 0) (w.alloc (made44 0)) := fun w => by simpa using run_make44 0 (by omega) w
  go_enter Try.func18, Try.ntmps18
  go_wp2
  refine wp_loop_rounds 1 ?_
  rw [rounds_succ]
  go_wp2
  go_ret
  exact ⟨(Below.refl _ _).alloc (Nat.le_refl _) _, rfl, ents_start _ _ _⟩

set_option maxHeartbeats 400000 in
theorem entries_any (b n c : Nat) (tm : Int) (L : Nat → Nat) (w : World) (hn : n ≤ 1048576) (hl : Lens w b n n L) :
    Calls Try.prog 18 #[.slice (some ⟨b, 0, none⟩) n c, .int .u64 tm] w (PostE w n L) := by
  have hmk := run_make44 n (by omega)
  have Hl : Hid (Lens w b n n L) := hl
  clear hl
  go_enter Try.func18, Try.ntmps18
  go_wp2
  clear hmk
  go_loopw [6] (fun i wr => ∃ k : Nat, k ≤ n ∧ i = .int .i64 k ∧ Below w.heap.size w wr ∧ Ents wr w.heap.size n k L) (fun i _ => n - (intOf i).toNat)
  case atStart => exact ⟨0, Nat.zero_le _, rfl, (Below.refl _ _).alloc (Nat.le_refl _) _, ents_start _ _ _⟩
  case round =>
    obtain ⟨k, hk, rfl, hb, hE⟩ := hrel
    by_cases hlt : k < n
    · obtain ⟨f0, hr0, hf0, _⟩ := Hl.out
      obtain ⟨a, c', ha⟩ := hf0 k hlt
      have hck : wr.cell? ⟨b, k, none⟩ = some (.slice a (L k) c') := (hb.cell hr0.lt).trans ((hr0.cell hlt).trans (by rw [ha]))
      clear hr0 hf0 ha
      obtain ⟨p, q, r, s, e0, e1, e2, e3⟩ := ents_cells hE hlt
      have z0 := ents_frozen hE
      have HR : Hid (∀ p q r, Below w.heap.size w (set4 wr w.heap.size k p q r (.slice a (L k) c')) ∧ Ents (set4 wr w.heap.size k p q r (.slice a (L k) c')) w.heap.size n (k + 1) L) := fun p q r => ⟨below_set4 hb (Nat.le_refl _) k p q r _, ents_set hE p q r a c'⟩
      clear hE hb
      go_wp2
      go_roundw
      case rel => exact ⟨k + 1, by omega, by go_num, (HR.out _ _ _).1, (HR.out _ _ _).2⟩
      case measure => simp [intOf]; omega
    · go_wp2
      go_ret
      obtain rfl : k = n := by omega
      exact ⟨hb, rfl, hE⟩

set_option maxHeartbeats 400000 in
/-- The copy of a row of entries that lies at a plain address. -/
theorem cloneEnts_any (b o n c : Nat) (F : Nat → Value) (L : Nat → Nat) (w : World) (hn : n ≤ 4194304) (hc : ∀ j, j < n * 4 → w.cell? ⟨b, o + j, none⟩ = some (F j)) (hF : ∀ i, i < n → Ent4 F i (L i)) :
    Calls Try.prog 25 #[.slice (some ⟨b, o, none⟩) n c] w (PostE w n L) := by
  have hmk := run_make44 n (by omega)
  have Hc : Hid (∀ j, j < n * 4 → w.cell? ⟨b, o + j, none⟩ = some (F j)) := hc
  have HF : Hid (∀ i, i < n → Ent4 F i (L i)) := hF
  clear hc hF
  go_enter Try.func25, Try.ntmps25
  go_wp2
  clear hmk
  go_loopw [4] (fun i wr => ∃ k : Nat, k ≤ n ∧ i = .int .i64 k ∧ Below w.heap.size w wr ∧ Ents wr w.heap.size n k L) (fun i _ => n - (intOf i).toNat)
  case atStart => exact ⟨0, Nat.zero_le _, rfl, (Below.refl _ _).alloc (Nat.le_refl _) _, ents_start _ _ _⟩
  case round =>
    obtain ⟨k, hk, rfl, hb, hE⟩ := hrel
    by_cases hlt : k < n
    · obtain ⟨p0, q0, r0, a, c', ha0, ha1, ha2, ha⟩ := HF.out k hlt
      have old : ∀ j, j < n * 4 → wr.cell? ⟨b, o + j, none⟩ = some (F j) := fun j hj => (hb.cell (World.block_lt_of_cell? _ _ (Hc.out j hj))).trans (Hc.out j hj)
      have o0 := old (k * 4) (by omega)
      have o1 := old (k * 4 + 1) (by omega)
      have o2 := old (k * 4 + 2) (by omega)
      have o3 := old (k * 4 + 3) (by omega)
      rw [ha0] at o0
      rw [ha1] at o1
      rw [ha2] at o2
      rw [ha] at o3
      rw [← Nat.add_assoc] at o1 o2 o3
      clear old ha ha0 ha1 ha2
      obtain ⟨p, q, r, s, e0, e1, e2, e3⟩ := ents_cells hE hlt
      have z0 := ents_frozen hE
      have HR : Hid (∀ p q r, Below w.heap.size w (set4 wr w.heap.size k p q r (.slice a (L k) c')) ∧ Ents (set4 wr w.heap.size k p q r (.slice a (L k) c')) w.heap.size n (k + 1) L) := fun p q r => ⟨below_set4 hb (Nat.le_refl _) k p q r _, ents_set hE p q r a c'⟩
      clear hE hb
      go_wp2
      go_roundw
      case rel => exact ⟨k + 1, by omega, by go_num, (HR.out _ _ _).1, (HR.out _ _ _).2⟩
      case measure => simp [intOf]; omega
    · go_wp2
      go_ret
      obtain rfl : k = n := by omega
      exact ⟨hb, rfl, hE⟩
end Go.Proofs.Qxb6002676a.sat
