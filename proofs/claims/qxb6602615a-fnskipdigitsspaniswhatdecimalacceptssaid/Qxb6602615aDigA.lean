/-
  Seat b6602615a: contracts of the small functions that the three laws call: the guards on length (8, 13, 16), cloneBytes (9), isDigit (11), decimal (17, 10), skipDigits (18, 14).
-/
import Derived.Test.Qxb6602615aRows
import Derived.WalkKit
import Derived.ProofKit
import Derived.Below
import Derived.Deep.OwnRows
import Derived.WalkSpells
namespace Go.Proofs.Qxb6602615a.dig
open Go.RowKit Go.Deep

/-- n bytes lie at a plain address, byte i being Z i. -/
def Bytes (w : World) (a : Option Addr) (n : Nat) (Z : Nat → Int) : Prop :=
  0 < n → ∃ b off, a = some ⟨b, off, none⟩ ∧ ∀ i, i < n → w.cell? ⟨b, off + i, none⟩ = some (.int .u8 (Z i))
/-- Each is a byte. -/
def Small (n : Nat) (Z : Nat → Int) : Prop := ∀ i, i < n → 0 ≤ Z i ∧ Z i ≤ 255

def digB (z : Int) : Bool := decide (48 ≤ z ∧ z ≤ 57)
theorem digB_true {z : Int} (h1 : 48 ≤ z) (h2 : z ≤ 57) : digB z = true := decide_eq_true ⟨h1, h2⟩
theorem digB_false {z : Int} (h : ¬ (48 ≤ z ∧ z ≤ 57)) : digB z = false := decide_eq_false h
theorem digB_iff (z : Int) : digB z = true ↔ 48 ≤ z ∧ z ≤ 57 := by unfold digB; simp

def PostB (w : World) (n : Nat) (e : Ending) (w' : World) : Prop := ∃ b, e = .returned (.bool b) ∧ w' = w ∧ (b = true → n ≤ 1048576)

theorem zz8 (a : Option Addr) (n c : Nat) (w : World) : Calls Try.prog 8 #[.slice a n c] w (PostB w n) := by
  by_cases h : 1048576 < n
  · go_enter Try.func8, Try.ntmps8
    go_wp2
    go_ret
    exact ⟨false, rfl, rfl, fun h => by cases h⟩
  · go_enter Try.func8, Try.ntmps8
    go_wp2
    go_ret
    exact ⟨true, rfl, rfl, fun _ => by omega⟩
theorem zz13 (a : Option Addr) (n c : Nat) (i : Int) (w : World) : Calls Try.prog 13 #[.slice a n c, .int .i64 i] w (PostB w n) := by
  by_cases h : 1048576 < n
  · go_enter Try.func13, Try.ntmps13
    go_wp2
    go_ret
    exact ⟨false, rfl, rfl, fun h => by cases h⟩
  · go_enter Try.func13, Try.ntmps13
    go_wp2
    go_ret
    exact ⟨true, rfl, rfl, fun _ => by omega⟩
theorem zz16 (a : Option Addr) (n c : Nat) (i : Int) (w : World) : Calls Try.prog 16 #[.slice a n c, .int .i64 i] w (PostB w n) := by
  by_cases h : 1048576 < n
  · go_enter Try.func16, Try.ntmps16
    go_wp2
    go_ret
    exact ⟨false, rfl, rfl, fun h => by cases h⟩
  · go_enter Try.func16, Try.ntmps16
    go_wp2
    go_ret
    exact ⟨true, rfl, rfl, fun _ => by omega⟩

theorem isDigit_any (z : Int) (w : World) : Calls Try.prog 11 #[.int .u8 z] w fun e w' => e = .returned (.bool (digB z)) ∧ w' = w := by
  by_cases h1 : 48 ≤ z
  · by_cases h2 : z ≤ 57
    · rw [digB_true h1 h2]
      go_enter Try.func11, Try.ntmps11
      go_wp2
      go_ret
      exact ⟨rfl, rfl⟩
    · rw [digB_false (by omega)]
      go_enter Try.func11, Try.ntmps11
      go_wp2
      go_ret
      exact ⟨rfl, rfl⟩
  · rw [digB_false (by omega)]
    go_enter Try.func11, Try.ntmps11
    go_wp2
    go_ret
    exact ⟨rfl, rfl⟩

theorem info5 : (Try.prog.info? 5).map (fun i => (i.zero, i.size, i.bytes)) = some (some (.int .u8 0), 1, 1) := by kernel_rfl

/-- Block B is a row of n bytes; the first k are Z's. -/
def Row (w : World) (B n k : Nat) (Z : Nat → Int) : Prop := ∃ f : Nat → Value, w.rowIs B 5 n f ∧ ∀ i, i < k → f i = .int .u8 (Z i)
theorem row_set {w : World} {B n k : Nat} {Z : Nat → Int} (h : Row w B n k Z) : Row (w.setCell ⟨B, k, none⟩ (.int .u8 (Z k))) B n (k + 1) Z := by
  obtain ⟨f, h1, h2⟩ := h
  refine ⟨_, h1.set k _, fun i hi => ?_⟩
  by_cases e : i = k
  · subst e; simp
  · exact (if_neg e).trans (h2 i (by omega))

def PostC (w : World) (n : Nat) (Z : Nat → Int) (e : Ending) (w' : World) : Prop :=
  Below w.heap.size w w' ∧ ∃ a, e = .returned (.slice a n n) ∧ Bytes w' a n Z ∧ (a = none ∨ a = some ⟨w.heap.size, 0, none⟩)

theorem clone_nil (w : World) (Z : Nat → Int) : Calls Try.prog 9 #[.slice none 0 0] w (PostC w 0 Z) := by
  have q22 : ∀ (w : World) (a : Option Addr) (n c n' c' : Nat), (binOp .eql 22 (.slice a n c) (.slice none n' c')).run Try.prog w = .ok (.bool a.isNone) w := fun w a n c n' c' => Lib.run_eql_slice_nil w _ _ a n c n' c' Try.underlying22
  go_enter Try.func9, Try.ntmps9
  go_wp2
  go_ret
  exact ⟨Below.refl _ _, none, rfl, fun h => absurd h (Nat.lt_irrefl _), .inl rfl⟩

theorem clone_some (x : Addr) (n c : Nat) (Z : Nat → Int) (w : World) (hn : n ≤ 1048576) (h : Bytes w (some x) n Z) : Calls Try.prog 9 #[.slice (some x) n c] w (PostC w n Z) := by
  have H : Hid (Bytes w (some x) n Z) := h
  clear h
  have q22 : ∀ (w : World) (a : Option Addr) (n c n' c' : Nat), (binOp .eql 22 (.slice a n c) (.slice none n' c')).run Try.prog w = .ok (.bool a.isNone) w := fun w a n c n' c' => Lib.run_eql_slice_nil w _ _ a n c n' c' Try.underlying22
  have hmk := run_make_row' (P := Try.prog) 22 5 (.int .u8 0) 1 Try.underlying22 info5 rfl .i64 .i64 n (by omega) (by omega)
  go_enter Try.func9, Try.ntmps9
  go_wp2
  clear hmk q22
  go_loopw [4] (fun i wr => ∃ k : Nat, k ≤ n ∧ i = .int .i64 k ∧ Below w.heap.size w wr ∧ Row wr w.heap.size n k Z) (fun i _ => n - (intOf i).toNat)
  case atStart => exact ⟨0, Nat.zero_le _, rfl, (Below.refl _ _).alloc (Nat.le_refl _) _, _, World.rowIs_made _ _ _ _, fun _ hi => absurd hi (Nat.not_lt_zero _)⟩
  case round =>
    obtain ⟨k, hk, rfl, hb, hr⟩ := hrel
    by_cases hlt : k < n
    · obtain ⟨b, off, hx, hc⟩ := H.out (by omega)
      obtain rfl : x = ⟨b, off, none⟩ := by simpa using hx
      have hck : wr.cell? ⟨b, off + k, none⟩ = some (.int .u8 (Z k)) := (hb.cell (World.block_lt_of_cell? _ _ (hc k hlt))).trans (hc k hlt)
      clear hc hx
      have R := row_set hr
      have R2 := fun v => hb.setCell (p := ⟨w.heap.size, k, none⟩) (Nat.le_refl _) v
      obtain ⟨f, hf, _⟩ := hr
      have s1 := hf.cell hlt
      have s2 := hf.frozen k
      clear hf hb
      go_wp2
      go_roundw
      case rel => exact ⟨k + 1, by omega, by go_num, R2 _, R⟩
      case measure => simp [intOf]; omega
    · obtain rfl : n = k := by omega
      go_wp2
      go_ret
      refine ⟨hb, _, rfl, fun _ => ⟨_, 0, rfl, fun i hi => ?_⟩, .inr rfl⟩
      obtain ⟨f, hf, he⟩ := hr
      rw [Nat.zero_add, hf.cell hi, he i hi]

theorem clone_all (a : Option Addr) (n c : Nat) (Z : Nat → Int) (w : World) (hn : n ≤ 1048576) (hnil : a = none → n = 0 ∧ c = 0) (h : Bytes w a n Z) : Calls Try.prog 9 #[.slice a n c] w (PostC w n Z) := by
  cases a with
  | none =>
    obtain ⟨rfl, rfl⟩ := hnil rfl
    exact clone_nil w Z
  | some x => exact clone_some x n c Z w hn h

/-- What decimal reckons of the first k bytes. -/
def dec (Z : Nat → Int) : Nat → Int
  | 0 => 0
  | k + 1 => wrap64 (wrap64 (10 * dec Z k) + (Z k - 48))
def allD (Z : Nat → Int) (n : Nat) : Prop := ∀ i, i < n → digB (Z i) = true

def PostD (w : World) (n : Nat) (Z : Nat → Int) (e : Ending) (w' : World) : Prop :=
  w' = w ∧ ((allD Z n ∧ e = .returned (.tuple #[.int .i64 (dec Z n), .bool true])) ∨ (¬ allD Z n ∧ e = .returned (.tuple #[.int .i64 0, .bool false])))

set_option maxHeartbeats 400000 in
theorem decimal_any (a : Option Addr) (n c : Nat) (Z : Nat → Int) (w : World) (hn : n ≤ 1048576) (h : Bytes w a n Z) (hs : Small n Z) : Calls Try.prog 17 #[.slice a n c] w (PostD w n Z) := by
  have H : Hid (Bytes w a n Z) := h
  have HS : Hid (Small n Z) := hs
  clear h hs
  go_enter Try.func17, Try.ntmps17
  go_wp2
  go_loop [4, 9] (fun s i => ∃ k : Nat, k ≤ n ∧ i = .int .i64 k ∧ s = .int .i64 (dec Z k) ∧ allD Z k) (fun _ i => n - (intOf i).toNat)
  case atStart => exact ⟨0, Nat.zero_le _, rfl, rfl, fun _ hi => absurd hi (Nat.not_lt_zero _)⟩
  case round =>
    obtain ⟨k, hk, rfl, rfl, hd⟩ := hrel
    have HD : Hid (allD Z k) := hd
    clear hd
    by_cases hlt : k < n
    · obtain ⟨b, off, rfl, hc⟩ := H.out (by omega)
      have hck := hc k hlt
      clear hc
      obtain ⟨z0, z1⟩ := HS.out k hlt
      by_cases h1 : 48 ≤ Z k
      · by_cases h2 : Z k ≤ 57
        · go_wp2
          go_round
          case rel => exact ⟨k + 1, by omega, by go_num, by simp [dec], fun i hi => by by_cases e : i = k; (subst e; exact digB_true h1 h2); exact HD.out i (by omega)⟩
          case measure => simp [intOf]; omega
        · go_wp2
          go_ret2
          exact ⟨rfl, .inr ⟨fun hh => by have := hh k hlt; rw [digB_iff] at this; omega, rfl⟩⟩
      · go_wp2
        go_ret2
        exact ⟨rfl, .inr ⟨fun hh => by have := hh k hlt; rw [digB_iff] at this; omega, rfl⟩⟩
    · obtain rfl : n = k := by omega
      go_wp2
      go_ret2
      exact ⟨rfl, .inl ⟨HD.out, rfl⟩⟩

theorem zzdecimal_any (a : Option Addr) (n c : Nat) (Z : Nat → Int) (w : World) (hn : n ≤ 1048576) (h : Bytes w a n Z) (hs : Small n Z) : Calls Try.prog 10 #[.slice a n c] w (PostD w n Z) := by
  have H : Hid (Calls Try.prog 17 #[.slice a n c] w (PostD w n Z)) := decimal_any a n c Z w hn h hs
  clear h hs
  go_enter Try.func10, Try.ntmps10
  go_wp2_with fail
  refine H.out.mono ?_
  rintro e w' ⟨rfl, hp⟩
  rcases hp with ⟨hp, rfl⟩ | ⟨hp, rfl⟩
  · have HP : Hid (allD Z n) := hp
    clear hp
    go_wp2
    go_ret2
    exact ⟨rfl, .inl ⟨HP.out, rfl⟩⟩
  · have HP : Hid (¬ allD Z n) := hp
    clear hp
    go_wp2
    go_ret2
    exact ⟨rfl, .inr ⟨HP.out, rfl⟩⟩

def PostS (w : World) (n i : Nat) (Z : Nat → Int) (e : Ending) (w' : World) : Prop :=
  w' = w ∧ ∃ j : Nat, e = .returned (.int .i64 j) ∧ i ≤ j ∧ (j ≤ n ∨ j = i) ∧ (∀ k, i ≤ k → k < j → digB (Z k) = true) ∧ (j < n → digB (Z j) = false)

set_option maxHeartbeats 400000 in
theorem skip_any (a : Option Addr) (n c i : Nat) (Z : Nat → Int) (w : World) (hn : n ≤ 1048576) (hi : i ≤ 9223372036854775807) (h : Bytes w a n Z) (hs : Small n Z) : Calls Try.prog 18 #[.slice a n c, .int .i64 i] w (PostS w n i Z) := by
  have H : Hid (Bytes w a n Z) := h
  have HS : Hid (Small n Z) := hs
  clear h hs
  go_enter Try.func18, Try.ntmps18
  go_wp2
  go_loop [1] (fun x => ∃ k : Nat, i ≤ k ∧ (k ≤ n ∨ k = i) ∧ x = .int .i64 k ∧ ∀ q, i ≤ q → q < k → digB (Z q) = true) (fun x => n - (intOf x).toNat)
  case atStart => exact ⟨i, Nat.le_refl _, .inr rfl, rfl, fun _ h1 h2 => absurd h2 (by omega)⟩
  case round =>
    obtain ⟨k, hk, hkn, rfl, hd⟩ := hrel
    have HK : Hid (k ≤ n ∨ k = i) := hkn
    have HD : Hid (∀ q, i ≤ q → q < k → digB (Z q) = true) := hd
    have hkm : k ≤ 9223372036854775807 := by omega
    clear hd hkn
    by_cases hlt : k < n
    · obtain ⟨b, off, rfl, hc⟩ := H.out (by omega)
      have hck := hc k hlt
      clear hc
      obtain ⟨z0, z1⟩ := HS.out k hlt
      by_cases h1 : 48 ≤ Z k
      · by_cases h2 : Z k ≤ 57
        · go_wp2
          go_round
          case rel => exact ⟨k + 1, by omega, .inl (by omega), by go_num, fun q q1 q2 => by by_cases e : q = k; (subst e; exact digB_true h1 h2); exact HD.out q q1 (by omega)⟩
          case measure => simp [intOf]; omega
        · have HF : Hid (digB (Z k) = false) := digB_false (by omega)
          go_wp2
          go_ret
          exact ⟨rfl, k, rfl, hk, HK.out, HD.out, fun _ => HF.out⟩
      · have HF : Hid (digB (Z k) = false) := digB_false (by omega)
        go_wp2
        go_ret
        exact ⟨rfl, k, rfl, hk, HK.out, HD.out, fun _ => HF.out⟩
    · go_wp2
      go_ret
      exact ⟨rfl, k, rfl, hk, HK.out, HD.out, fun h => absurd h hlt⟩

theorem zzskip_any (a : Option Addr) (n c i : Nat) (Z : Nat → Int) (w : World) (hn : n ≤ 1048576) (hi : i ≤ 9223372036854775807) (h : Bytes w a n Z) (hs : Small n Z) : Calls Try.prog 14 #[.slice a n c, .int .i64 i] w (PostS w n i Z) := by
  have H : Hid (Calls Try.prog 18 #[.slice a n c, .int .i64 i] w (PostS w n i Z)) := skip_any a n c i Z w hn hi h hs
  clear h hs
  go_enter Try.func14, Try.ntmps14
  go_wp2_with fail
  refine H.out.mono ?_
  rintro e w' ⟨rfl, j, rfl, hp⟩
  have HP : Hid (i ≤ j ∧ (j ≤ n ∨ j = i) ∧ (∀ k, i ≤ k → k < j → digB (Z k) = true) ∧ (j < n → digB (Z j) = false)) := hp
  clear hp
  go_wp2
  go_ret
  exact ⟨rfl, j, rfl, HP.out⟩
end Go.Proofs.Qxb6602615a.dig
