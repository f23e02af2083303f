/-
  Seat b6002676a, FnAppendWithinSaturates: the words of the walks, and the walks of zzBytes (24) and zzb1BytesOK (16).
-/
import Derived.Test.Qxb6002676aRows
import Derived.WalkKit
import Derived.ProofKit
import Derived.Below
namespace Go.Proofs.Qxb6002676a.sat
open Go.RowKit

/-- A slice of slices of bytes that came in: where it has elements, they lie at a plain address; element r is a slice of length 'L r'. -/
def Rows2 (w : World) (a : Option Addr) (n : Nat) (A : Nat → Option Addr) (L C : Nat → Nat) : Prop :=
  0 < n → ∃ b off, a = some ⟨b, off, none⟩ ∧ ∀ r, r < n → w.cell? ⟨b, off + r, none⟩ = some (.slice (A r) (L r) (C r))

/-- What zzBytes answers: some bool; where it is true no length is above 2^20. -/
def Post24 (w : World) (n0 n1 : Nat) (L0 L1 : Nat → Nat) (e : Ending) (w' : World) : Prop :=
  ∃ b, e = .returned (.bool b) ∧ w' = w ∧ (b = true → n0 ≤ 1048576 ∧ n1 ≤ 1048576 ∧ (∀ r, r < n0 → L0 r ≤ 1048576) ∧ ∀ r, r < n1 → L1 r ≤ 1048576)
theorem post24_no (w : World) (n0 n1 : Nat) (L0 L1 : Nat → Nat) : Post24 w n0 n1 L0 L1 (.returned (.bool false)) w := ⟨false, rfl, rfl, fun h => by cases h⟩

set_option maxHeartbeats 400000 in
theorem zzBytes_any (a0 a1 : Option Addr) (n0 c0 n1 c1 : Nat) (mx : Int) (A0 A1 : Nat → Option Addr) (L0 C0 L1 C1 : Nat → Nat) (w : World)
    (h0 : Rows2 w a0 n0 A0 L0 C0) (h1 : Rows2 w a1 n1 A1 L1 C1) :
    Calls Try.prog 24 #[.slice a0 n0 c0, .slice a1 n1 c1, .int .i64 mx] w (Post24 w n0 n1 L0 L1) := by
  have H0 : Hid (Rows2 w a0 n0 A0 L0 C0) := h0
  have H1 : Hid (Rows2 w a1 n1 A1 L1 C1) := h1
  clear h0 h1
  by_cases g0 : 1048576 < n0
  · go_enter Try.func24, Try.ntmps24
    go_wp2
    go_ret
    exact post24_no _ _ _ _ _
  · have g0' : n0 ≤ 1048576 := by omega
    have d0 : decide ((1048576 : Int) < (n0 : Int)) = false := decide_eq_false (by omega)
    clear g0
    go_enter Try.func24, Try.ntmps24
    go_wp2
    go_loop [7, 8] (fun z i => ∃ k s : Nat, k ≤ n0 ∧ i = .int .i64 k ∧ z = .int .i64 s ∧ s ≤ 1048576 ∧ ∀ r, r < k → L0 r ≤ 1048576) (fun _ i => n0 - (intOf i).toNat)
    case atStart => exact ⟨0, n0, Nat.zero_le _, rfl, rfl, g0', fun r hr => absurd hr (Nat.not_lt_zero _)⟩
    case round =>
      obtain ⟨k, s, hk, rfl, rfl, hs, hL⟩ := hrel
      have HL : Hid (∀ r, r < k → L0 r ≤ 1048576) := hL
      clear hL
      by_cases hlt : k < n0
      · obtain ⟨b, off, rfl, hc⟩ := H0.out (by omega)
        have hck := hc k hlt
        clear hc
        by_cases q1 : 1048576 < L0 k
        · go_wp2
          go_ret
          exact post24_no _ _ _ _ _
        · by_cases q2 : 1048576 < s + L0 k
          · go_wp2
            go_ret
            exact post24_no _ _ _ _ _
          · go_wp2
            go_round
            case rel => exact ⟨k + 1, s + L0 k, by omega, by go_num, by go_num, by omega, fun r hr => by by_cases e : r = k; (subst e; omega); exact HL.out r (by omega)⟩
            case measure => simp [intOf]; omega
      · have hL0 : Hid (∀ r, r < n0 → L0 r ≤ 1048576) := fun r hr => HL.out r (by omega)
        clear HL
        by_cases g1 : 1048576 < n1
        · go_wp2
          go_ret
          exact post24_no _ _ _ _ _
        · by_cases q2 : 1048576 < s + n1
          · go_wp2
            go_ret
            exact post24_no _ _ _ _ _
          · have d1 : decide ((1048576 : Int) < (n1 : Int)) = false := decide_eq_false (by omega)
            have d2 : decide ((1048576 : Int) < (s : Int) + (n1 : Int)) = false := decide_eq_false (by omega)
            go_wp2
            go_loop [7, 9] (fun z i => ∃ k s : Nat, k ≤ n1 ∧ i = .int .i64 k ∧ z = .int .i64 s ∧ s ≤ 1048576 ∧ ∀ r, r < k → L1 r ≤ 1048576) (fun _ i => n1 - (intOf i).toNat)
            case atStart => exact ⟨0, s + n1, Nat.zero_le _, rfl, by go_num, by omega, fun r hr => absurd hr (Nat.not_lt_zero _)⟩
            case round =>
              obtain ⟨k1, s1, hk1, rfl, rfl, hs1, hL⟩ := hrel
              have HL : Hid (∀ r, r < k1 → L1 r ≤ 1048576) := hL
              clear hL
              by_cases hlt1 : k1 < n1
              · obtain ⟨b, off, rfl, hc⟩ := H1.out (by omega)
                have hck := hc k1 hlt1
                clear hc
                by_cases q3 : 1048576 < L1 k1
                · go_wp2
                  go_ret
                  exact post24_no _ _ _ _ _
                · by_cases q4 : 1048576 < s1 + L1 k1
                  · go_wp2
                    go_ret
                    exact post24_no _ _ _ _ _
                  · go_wp2
                    go_round
                    case rel => exact ⟨k1 + 1, s1 + L1 k1, by omega, by go_num, by go_num, by omega, fun r hr => by by_cases e : r = k1; (subst e; omega); exact HL.out r (by omega)⟩
                    case measure => simp [intOf]; omega
              · go_wp2
                go_ret
                exact ⟨true, rfl, rfl, fun _ => ⟨g0', by omega, hL0.out, fun r hr => HL.out r (by omega)⟩⟩

def Post16 (w : World) (e : Ending) (w' : World) : Prop := ∃ b, e = .returned (.bool b) ∧ w' = w

set_option maxHeartbeats 400000 in
theorem bytesOK_any (a0 a1 : Option Addr) (n0 c0 n1 c1 : Nat) (A0 A1 : Nat → Option Addr) (L0 C0 L1 C1 : Nat → Nat) (w : World)
    (h0 : Rows2 w a0 n0 A0 L0 C0) (h1 : Rows2 w a1 n1 A1 L1 C1) :
    Calls Try.prog 16 #[.slice a0 n0 c0, .slice a1 n1 c1] w (Post16 w) := by
  have H0 : Hid (Rows2 w a0 n0 A0 L0 C0) := h0
  have H1 : Hid (Rows2 w a1 n1 A1 L1 C1) := h1
  clear h0 h1
  by_cases g0 : 4096 < n0
  · go_enter Try.func16, Try.ntmps16
    go_wp2
    go_ret
    exact ⟨false, rfl, rfl⟩
  · by_cases g1 : 4096 < n1
    · go_enter Try.func16, Try.ntmps16
      go_wp2
      go_ret
      exact ⟨false, rfl, rfl⟩
    · have d0 : decide ((4096 : Int) < (n0 : Int)) = false := decide_eq_false (by omega)
      have d1 : decide ((4096 : Int) < (n1 : Int)) = false := decide_eq_false (by omega)
      go_enter Try.func16, Try.ntmps16
      go_wp2
      go_loop [5, 6] (fun z i => ∃ (k : Nat) (s : Int), k ≤ n0 ∧ i = .int .i64 k ∧ z = .int .i64 s) (fun _ i => n0 - (intOf i).toNat)
      case atStart => exact ⟨0, _, Nat.zero_le _, rfl, rfl⟩
      case round =>
        obtain ⟨k, s, hk, rfl, rfl⟩ := hrel
        by_cases hlt : k < n0
        · obtain ⟨b, off, rfl, hc⟩ := H0.out (by omega)
          have hck := hc k hlt
          clear hc
          go_wp2
          go_round
          case rel => exact ⟨k + 1, _, by omega, by go_num, rfl⟩
          case measure => simp [intOf]; omega
        · go_wp2
          go_loop [5, 7] (fun z i => ∃ (k : Nat) (s : Int), k ≤ n1 ∧ i = .int .i64 k ∧ z = .int .i64 s) (fun _ i => n1 - (intOf i).toNat)
          case atStart => exact ⟨0, _, Nat.zero_le _, rfl, rfl⟩
          case round =>
            obtain ⟨k1, s1, hk1, rfl, rfl⟩ := hrel
            by_cases hlt1 : k1 < n1
            · obtain ⟨b, off, rfl, hc⟩ := H1.out (by omega)
              have hck := hc k1 hlt1
              clear hc
              go_wp2
              go_round
              case rel => exact ⟨k1 + 1, _, by omega, by go_num, rfl⟩
              case measure => simp [intOf]; omega
            · go_wp2
              go_ret
              exact ⟨_, rfl, rfl⟩
end Go.Proofs.Qxb6002676a.sat
