/-
  Seat b6603793a: contracts of the small functions: strAt (20), u64At (21), i64At (37), the copies (16, 17, 36), sumLens (39).
-/
import Derived.Test.Qxb6603793aHistD
namespace Go.Proofs.Qxb6603793a.hist
open Go.RowKit Go.Deep

/-- n one-cell elements lie at a plain address; element i is V i. -/
def Cells (w : World) (a : Option Addr) (n : Nat) (V : Nat → Value) : Prop :=
  0 < n → ∃ b off, a = some ⟨b, off, none⟩ ∧ ∀ i, i < n → w.cell? ⟨b, off + i, none⟩ = some (V i)
theorem cells_below {w w' : World} {a : Option Addr} {n : Nat} {V : Nat → Value} (h : Cells w a n V) (hb : Below w.heap.size w w') : Cells w' a n V := fun hn => by
  obtain ⟨b, off, ha, hc⟩ := h hn
  exact ⟨b, off, ha, fun i hi => (hb.cell (World.block_lt_of_cell? _ _ (hc i hi))).trans (hc i hi)⟩
def emp : ByteArray := ⟨#[]⟩
def strs (F : Nat → ByteArray) (i : Nat) : Value := .string (F i)
def u64s (F : Nat → Int) (i : Nat) : Value := .int .u64 (F i)
def i64s (F : Nat → Int) (i : Nat) : Value := .int .i64 (F i)

theorem strAt_any (a : Option Addr) (n c : Nat) (F : Nat → ByteArray) (i : Nat) (w : World) (h : Cells w a n (strs F)) (h0 : ∀ j, n ≤ j → F j = emp) : Calls Try.prog 20 #[.slice a n c, .int .i64 i] w fun e w' => e = .returned (.string (F i)) ∧ w' = w := by
  by_cases hi : i < n
  · obtain ⟨b, off, rfl, hc⟩ := h (by omega)
    have hck : w.cell? ⟨b, off + i, none⟩ = some (.string (F i)) := hc i hi
    clear hc h h0
    go_enter Try.func20, Try.ntmps20
    go_wp2
    go_ret
    exact ⟨rfl, rfl⟩
  · have he : F i = ⟨#[]⟩ := h0 i (by omega)
    clear h h0
    go_enter Try.func20, Try.ntmps20
    go_wp2
    go_ret
    exact ⟨by rw [he]; rfl, rfl⟩
theorem u64At_any (a : Option Addr) (n c : Nat) (F : Nat → Int) (i : Nat) (w : World) (h : Cells w a n (u64s F)) (h0 : ∀ j, n ≤ j → F j = 0) : Calls Try.prog 21 #[.slice a n c, .int .i64 i] w fun e w' => e = .returned (.int .u64 (F i)) ∧ w' = w := by
  by_cases hi : i < n
  · obtain ⟨b, off, rfl, hc⟩ := h (by omega)
    have hck : w.cell? ⟨b, off + i, none⟩ = some (.int .u64 (F i)) := hc i hi
    clear hc h h0
    go_enter Try.func21, Try.ntmps21
    go_wp2
    go_ret
    exact ⟨rfl, rfl⟩
  · have he : F i = 0 := h0 i (by omega)
    clear h h0
    go_enter Try.func21, Try.ntmps21
    go_wp2
    go_ret
    exact ⟨by rw [he]; rfl, rfl⟩
theorem i64At_any (a : Option Addr) (n c : Nat) (F : Nat → Int) (i : Nat) (w : World) (h : Cells w a n (i64s F)) (h0 : ∀ j, n ≤ j → F j = 0) : Calls Try.prog 37 #[.slice a n c, .int .i64 i] w fun e w' => e = .returned (.int .i64 (F i)) ∧ w' = w := by
  by_cases hi : i < n
  · obtain ⟨b, off, rfl, hc⟩ := h (by omega)
    have hck : w.cell? ⟨b, off + i, none⟩ = some (.int .i64 (F i)) := hc i hi
    clear hc h h0
    go_enter Try.func37, Try.ntmps37
    go_wp2
    go_ret
    exact ⟨rfl, rfl⟩
  · have he : F i = 0 := h0 i (by omega)
    clear h h0
    go_enter Try.func37, Try.ntmps37
    go_wp2
    go_ret
    exact ⟨by rw [he]; rfl, rfl⟩

/-- Block B is a row of n; the first k are V's. -/
def RowK (w : World) (B E n k : Nat) (V : Nat → Value) : Prop := ∃ f : Nat → Value, w.rowIs B E n f ∧ ∀ i, i < k → f i = V i
theorem rowK_set {w : World} {B E n k : Nat} {V : Nat → Value} (h : RowK w B E n k V) : RowK (w.setCell ⟨B, k, none⟩ (V k)) B E n (k + 1) V := by
  obtain ⟨f, h1, h2⟩ := h
  refine ⟨_, h1.set k _, fun i hi => ?_⟩
  by_cases e : i = k
  · subst e; simp
  · exact (if_neg e).trans (h2 i (by omega))
/-- The copy: its elements are the same; what was is as it was. -/
def PostC (w : World) (n : Nat) (V : Nat → Value) (e : Ending) (w' : World) : Prop := Below w.heap.size w w' ∧ ∃ a c, e = .returned (.slice a n c) ∧ Cells w' a n V ∧ (a = none → n = 0 ∧ c = 0)
theorem postC_row {w w' : World} {E n : Nat} {V : Nat → Value} (hb : Below w.heap.size w w') (h : RowK w' w.heap.size E n n V) : PostC w n V (.returned (.slice (some ⟨w.heap.size, 0, none⟩) n n)) w' := by
  obtain ⟨f, h1, h2⟩ := h
  refine ⟨hb, _, _, rfl, fun _ => ⟨w.heap.size, 0, rfl, fun i hi => ?_⟩, fun e => by cases e⟩
  rw [Nat.zero_add, h1.cell hi, h2 i hi]
theorem info31 : (Try.prog.info? 31).map (fun i => (i.zero, i.size, i.bytes)) = some (some (.int .u64 0), 1, 8) := by kernel_rfl
theorem info2 : (Try.prog.info? 2).map (fun i => (i.zero, i.size, i.bytes)) = some (some (.int .i64 0), 1, 8) := by kernel_rfl
theorem info9 : (Try.prog.info? 9).map (fun i => (i.zero, i.size, i.bytes)) = some (some (.string ⟨#[]⟩), 1, 16) := by kernel_rfl

theorem clone16 (a : Option Addr) (n c : Nat) (F : Nat → Int) (w : World) (hn : n ≤ 1048576) (hnil : a = none → n = 0 ∧ c = 0) (h : Cells w a n (u64s F)) : Calls Try.prog 16 #[.slice a n c] w (PostC w n (u64s F)) := by
  have qn : ∀ (w : World) (a : Option Addr) (n c n' c' : Nat), (binOp .eql 32 (.slice a n c) (.slice none n' c')).run Try.prog w = .ok (.bool a.isNone) w := fun w a n c n' c' => Lib.run_eql_slice_nil w _ _ a n c n' c' Try.underlying32
  cases a with
  | none =>
    obtain ⟨rfl, rfl⟩ := hnil rfl
    clear h hnil
    go_enter Try.func16, Try.ntmps16
    go_wp2
    go_ret
    exact ⟨Below.refl _ _, none, 0, rfl, fun h => absurd h (by omega), fun _ => ⟨rfl, rfl⟩⟩
  | some x =>
    have H : Hid (Cells w (some x) n (u64s F)) := h
    clear h hnil
    have hmk := run_make_row' (P := Try.prog) 32 31 (.int .u64 0) 8 Try.underlying32 info31 rfl .i64 .i64 n (by omega) (by omega)
    go_enter Try.func16, Try.ntmps16
    go_wp2
    clear hmk qn
    go_loopw [4] (fun i wr => ∃ k : Nat, k ≤ n ∧ i = .int .i64 k ∧ Below w.heap.size w wr ∧ RowK wr w.heap.size 31 n k (u64s F)) (fun i _ => n - (intOf i).toNat)
    case atStart => exact ⟨0, Nat.zero_le _, rfl, (Below.refl _ _).alloc (Nat.le_refl _) _, _, World.rowIs_made _ _ _ _, fun _ hi => absurd hi (Nat.not_lt_zero _)⟩
    case round =>
      obtain ⟨k, hk, rfl, hb, hr⟩ := hrel
      by_cases hlt : k < n
      · obtain ⟨b, off, hx, hc⟩ := H.out (by omega)
        obtain rfl : x = ⟨b, off, none⟩ := by simpa using hx
        have hck : wr.cell? ⟨b, off + k, none⟩ = some (.int .u64 (F k)) := (hb.cell (World.block_lt_of_cell? _ _ (hc k hlt))).trans (hc k hlt)
        clear hc hx
        have R : RowK (wr.setCell ⟨w.heap.size, k, none⟩ (.int .u64 (F k))) w.heap.size 31 n (k + 1) (u64s F) := rowK_set hr
        have R2 := fun v => hb.setCell (p := ⟨w.heap.size, k, none⟩) (Nat.le_refl _) v
        obtain ⟨f, hf, _⟩ := hr
        have s1 := hf.cell hlt
        have s2 := hf.frozen k
        clear hf hb
        go_wp2
        go_roundw
        case rel => exact ⟨k + 1, by omega, by go_num, R2 _, R⟩
        case measure => simp [intOf]; omega
      · obtain rfl : n = k := by omega
        go_wp2
        go_ret
        exact postC_row hb hr

theorem clone17 (a : Option Addr) (n c : Nat) (F : Nat → ByteArray) (w : World) (hn : n ≤ 1048576) (hnil : a = none → n = 0 ∧ c = 0) (h : Cells w a n (strs F)) : Calls Try.prog 17 #[.slice a n c] w (PostC w n (strs F)) := by
  have qn : ∀ (w : World) (a : Option Addr) (n c n' c' : Nat), (binOp .eql 33 (.slice a n c) (.slice none n' c')).run Try.prog w = .ok (.bool a.isNone) w := fun w a n c n' c' => Lib.run_eql_slice_nil w _ _ a n c n' c' Try.underlying33
  cases a with
  | none =>
    obtain ⟨rfl, rfl⟩ := hnil rfl
    clear h hnil
    go_enter Try.func17, Try.ntmps17
    go_wp2
    go_ret
    exact ⟨Below.refl _ _, none, 0, rfl, fun h => absurd h (by omega), fun _ => ⟨rfl, rfl⟩⟩
  | some x =>
    have H : Hid (Cells w (some x) n (strs F)) := h
    clear h hnil
    have hmk := run_make_row' (P := Try.prog) 33 9 (.string ⟨#[]⟩) 16 Try.underlying33 info9 rfl .i64 .i64 n (by omega) (by omega)
    go_enter Try.func17, Try.ntmps17
    go_wp2
    clear hmk qn
    go_loopw [4] (fun i wr => ∃ k : Nat, k ≤ n ∧ i = .int .i64 k ∧ Below w.heap.size w wr ∧ RowK wr w.heap.size 9 n k (strs F)) (fun i _ => n - (intOf i).toNat)
    case atStart => exact ⟨0, Nat.zero_le _, rfl, (Below.refl _ _).alloc (Nat.le_refl _) _, _, World.rowIs_made _ _ _ _, fun _ hi => absurd hi (Nat.not_lt_zero _)⟩
    case round =>
      obtain ⟨k, hk, rfl, hb, hr⟩ := hrel
      by_cases hlt : k < n
      · obtain ⟨b, off, hx, hc⟩ := H.out (by omega)
        obtain rfl : x = ⟨b, off, none⟩ := by simpa using hx
        have hck : wr.cell? ⟨b, off + k, none⟩ = some (.string (F k)) := (hb.cell (World.block_lt_of_cell? _ _ (hc k hlt))).trans (hc k hlt)
        clear hc hx
        have R : RowK (wr.setCell ⟨w.heap.size, k, none⟩ (.string (F k))) w.heap.size 9 n (k + 1) (strs F) := rowK_set hr
        have R2 := fun v => hb.setCell (p := ⟨w.heap.size, k, none⟩) (Nat.le_refl _) v
        obtain ⟨f, hf, _⟩ := hr
        have s1 := hf.cell hlt
        have s2 := hf.frozen k
        clear hf hb
        go_wp2
        go_roundw
        case rel => exact ⟨k + 1, by omega, by go_num, R2 _, R⟩
        case measure => simp [intOf]; omega
      · obtain rfl : n = k := by omega
        go_wp2
        go_ret
        exact postC_row hb hr

theorem clone36 (a : Option Addr) (n c : Nat) (F : Nat → Int) (w : World) (hn : n ≤ 1048576) (hnil : a = none → n = 0 ∧ c = 0) (h : Cells w a n (i64s F)) : Calls Try.prog 36 #[.slice a n c] w (PostC w n (i64s F)) := by
  have qn : ∀ (w : World) (a : Option Addr) (n c n' c' : Nat), (binOp .eql 56 (.slice a n c) (.slice none n' c')).run Try.prog w = .ok (.bool a.isNone) w := fun w a n c n' c' => Lib.run_eql_slice_nil w _ _ a n c n' c' Try.underlying56
  cases a with
  | none =>
    obtain ⟨rfl, rfl⟩ := hnil rfl
    clear h hnil
    go_enter Try.func36, Try.ntmps36
    go_wp2
    go_ret
    exact ⟨Below.refl _ _, none, 0, rfl, fun h => absurd h (by omega), fun _ => ⟨rfl, rfl⟩⟩
  | some x =>
    have H : Hid (Cells w (some x) n (i64s F)) := h
    clear h hnil
    have hmk := run_make_row' (P := Try.prog) 56 2 (.int .i64 0) 8 Try.underlying56 info2 rfl .i64 .i64 n (by omega) (by omega)
    go_enter Try.func36, Try.ntmps36
    go_wp2
    clear hmk qn
    go_loopw [4] (fun i wr => ∃ k : Nat, k ≤ n ∧ i = .int .i64 k ∧ Below w.heap.size w wr ∧ RowK wr w.heap.size 2 n k (i64s F)) (fun i _ => n - (intOf i).toNat)
    case atStart => exact ⟨0, Nat.zero_le _, rfl, (Below.refl _ _).alloc (Nat.le_refl _) _, _, World.rowIs_made _ _ _ _, fun _ hi => absurd hi (Nat.not_lt_zero _)⟩
    case round =>
      obtain ⟨k, hk, rfl, hb, hr⟩ := hrel
      by_cases hlt : k < n
      · obtain ⟨b, off, hx, hc⟩ := H.out (by omega)
        obtain rfl : x = ⟨b, off, none⟩ := by simpa using hx
        have hck : wr.cell? ⟨b, off + k, none⟩ = some (.int .i64 (F k)) := (hb.cell (World.block_lt_of_cell? _ _ (hc k hlt))).trans (hc k hlt)
        clear hc hx
        have R : RowK (wr.setCell ⟨w.heap.size, k, none⟩ (.int .i64 (F k))) w.heap.size 2 n (k + 1) (i64s F) := rowK_set hr
        have R2 := fun v => hb.setCell (p := ⟨w.heap.size, k, none⟩) (Nat.le_refl _) v
        obtain ⟨f, hf, _⟩ := hr
        have s1 := hf.cell hlt
        have s2 := hf.frozen k
        clear hf hb
        go_wp2
        go_roundw
        case rel => exact ⟨k + 1, by omega, by go_num, R2 _, R⟩
        case measure => simp [intOf]; omega
      · obtain rfl : n = k := by omega
        go_wp2
        go_ret
        exact postC_row hb hr

/-- The lengths of the first k strings. -/
def lenTo (F : Nat → ByteArray) : Nat → Nat
  | 0 => 0
  | k + 1 => lenTo F k + (F k).size
theorem lenTo_mono (F : Nat → ByteArray) {k n : Nat} (h : k ≤ n) : lenTo F k ≤ lenTo F n := by
  induction h with
  | refl => exact Nat.le_refl _
  | step _ ih => exact Nat.le_trans ih (Nat.le_add_right _ _)
theorem sumLens_any (a : Option Addr) (n c : Nat) (F : Nat → ByteArray) (w : World) (hn : n ≤ 1048576) (h : Cells w a n (strs F)) (hs : ∀ i, i < n → (F i).size ≤ 1048576) : Calls Try.prog 39 #[.slice a n c] w fun e w' => w' = w ∧ ∃ z : Nat, e = .returned (.int .i64 z) ∧ z ≤ 2097152 ∧ (z ≤ 1048576 → z = lenTo F n) := by
  have H : Hid (Cells w a n (strs F)) := h
  have HS : Hid (∀ i, i < n → (F i).size ≤ 1048576) := hs
  clear h hs
  go_enter Try.func39, Try.ntmps39
  go_wp2
  go_loop [3, 4] (fun z i => ∃ k s : Nat, k ≤ n ∧ i = .int .i64 k ∧ z = .int .i64 s ∧ s ≤ 1048576 ∧ s = lenTo F k) (fun _ i => n - (intOf i).toNat)
  case atStart => exact ⟨0, 0, Nat.zero_le _, rfl, rfl, by omega, rfl⟩
  case round =>
    obtain ⟨k, s, hk, rfl, rfl, hs, hL⟩ := hrel
    have HL : Hid (s = lenTo F k) := hL
    clear hL
    by_cases hlt : k < n
    · obtain ⟨b, off, rfl, hc⟩ := H.out (by omega)
      have hck : w.cell? ⟨b, off + k, none⟩ = some (.string (F k)) := hc k hlt
      have hsk := HS.out k hlt
      clear hc
      by_cases q1 : 1048576 < s + (F k).size
      · go_wp2
        go_ret
        exact ⟨rfl, s + (F k).size, by go_num, by omega, fun hh => by omega⟩
      · go_wp2
        go_round
        case rel => exact ⟨k + 1, s + (F k).size, by omega, by go_num, by go_num, by omega, by have := HL.out; simp [lenTo]; omega⟩
        case measure => simp [intOf]; omega
    · obtain rfl : n = k := by omega
      go_wp2
      go_ret
      exact ⟨rfl, s, by go_num, by omega, fun _ => HL.out⟩
end Go.Proofs.Qxb6603793a.hist
