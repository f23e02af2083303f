/-
  Seat b6602615a, FnDecimalMatchesPositionalModel: the plain law (reading left to right and summing right to left come to one number modulo 2^64) and the walk.
-/
import Derived.Test.Qxb6602615aDigA
namespace Go.Proofs.Qxb6602615a.dig
open Go.RowKit Go.Deep

/-- The first k digits' value, exact. -/
def V (Z : Nat → Int) : Nat → Int
  | 0 => 0
  | k + 1 => 10 * V Z k + (Z k - 48)
theorem wrap_add (a b : Int) : wrap64 (wrap64 a + b) = wrap64 (a + b) := by unfold wrap64; omega
theorem wrap_ten (a : Int) : wrap64 (10 * wrap64 a) = wrap64 (10 * a) := by unfold wrap64; omega
theorem wrap_form (a : Int) : ∃ q, wrap64 a = a - 18446744073709551616 * q := ⟨(a + 9223372036854775808) / 18446744073709551616, by unfold wrap64; omega⟩
theorem wrap_off (a q : Int) : wrap64 (a - 18446744073709551616 * q) = wrap64 a := by unfold wrap64; omega
theorem wrap_mul (d a : Int) : wrap64 (d * wrap64 a) = wrap64 (d * a) := by
  obtain ⟨q, h⟩ := wrap_form a
  rw [h, Int.mul_sub, Int.mul_left_comm, wrap_off]
theorem wrap_mul_ten (a : Int) : wrap64 (wrap64 a * 10) = wrap64 (a * 10) := by unfold wrap64; omega
theorem wrap_add2 (a b : Int) : wrap64 (wrap64 a + wrap64 b) = wrap64 (a + b) := by unfold wrap64; omega
theorem dec_V (Z : Nat → Int) : ∀ k, dec Z k = wrap64 (V Z k)
  | 0 => by simp [dec, V, wrap64]
  | k + 1 => by
    show wrap64 (wrap64 (10 * dec Z k) + (Z k - 48)) = wrap64 (10 * V Z k + (Z k - 48))
    rw [dec_V Z k, wrap_ten, wrap_add]

/-- The last m digits' value, exact, summed right to left. -/
def T (Z : Nat → Int) (n : Nat) : Nat → Int
  | 0 => 0
  | m + 1 => T Z n m + (Z (n - 1 - m) - 48) * 10 ^ m
theorem V_T (Z : Nat → Int) (n : Nat) : ∀ m, m ≤ n → V Z n = V Z (n - m) * 10 ^ m + T Z n m
  | 0, _ => by simp [T]
  | m + 1, h => by
    have ih := V_T Z n m (by omega)
    obtain ⟨j, hj⟩ : ∃ j, n - m = j + 1 := ⟨n - m - 1, by omega⟩
    have e1 : n - (m + 1) = j := by omega
    have e2 : n - 1 - m = j := by omega
    rw [hj] at ih
    rw [ih, e1]
    show (10 * V Z j + (Z j - 48)) * 10 ^ m + T Z n m = V Z j * 10 ^ (m + 1) + (T Z n m + (Z (n - 1 - m) - 48) * 10 ^ m)
    rw [e2, Int.pow_succ, Int.add_mul]
    have : 10 * V Z j * 10 ^ m = V Z j * (10 ^ m * 10) := by
      rw [Int.mul_comm 10 (V Z j), Int.mul_assoc, Int.mul_comm 10]
    omega
theorem V_all (Z : Nat → Int) (n : Nat) : V Z n = T Z n n := by
  have := V_T Z n n (Nat.le_refl _)
  rw [Nat.sub_self] at this
  simpa [V] using this
/-- One step of the sum, as the walk spells it. -/
theorem T_step (Z : Nat → Int) (n m : Nat) (d : Int) (hd : d = Z (n - 1 - m) - 48) : wrap64 (wrap64 (T Z n m) + wrap64 (d * wrap64 (10 ^ m))) = wrap64 (T Z n (m + 1)) := by
  subst hd
  rw [wrap_mul, wrap_add2]
  rfl
theorem pow_step (m : Nat) : wrap64 (wrap64 ((10 : Int) ^ m) * 10) = wrap64 (10 ^ (m + 1)) := by rw [wrap_mul_ten, Int.pow_succ]

def PostLaw (w : World) (e : Ending) (w' : World) : Prop := e = .returned (.bool true) ∧ Below w.heap.size w w'

/-- What the law has seen behind k rounds: all digits so far? -/
def allB (Z : Nat → Int) : Nat → Bool
  | 0 => true
  | k + 1 => allB Z k && digB (Z k)
theorem allB_iff (Z : Nat → Int) : ∀ n, allB Z n = true ↔ allD Z n
  | 0 => ⟨fun _ _ h => absurd h (Nat.not_lt_zero _), fun _ => rfl⟩
  | n + 1 => by
    have ih := allB_iff Z n
    constructor
    · intro h i hi
      have h' : (allB Z n && digB (Z n)) = true := h
      rw [Bool.and_eq_true] at h'
      by_cases e : i = n
      · subst e; exact h'.2
      · exact ih.1 h'.1 i (by omega)
    · intro h
      show (allB Z n && digB (Z n)) = true
      rw [Bool.and_eq_true]
      exact ⟨ih.2 fun i hi => h i (by omega), h n (by omega)⟩

set_option maxHeartbeats 400000 in
theorem law3 (a : Option Addr) (n c : Nat) (Z : Nat → Int) (w : World) (hnil : a = none → n = 0 ∧ c = 0) (h : Bytes w a n Z) (hs : Small n Z) : Calls Try.prog 3 #[.slice a n c] w (PostLaw w) := by
  have H : Hid ((a = none → n = 0 ∧ c = 0) ∧ Bytes w a n Z) := ⟨hnil, h⟩
  have HS : Hid (Small n Z) := hs
  clear h hs hnil
  go_enter Try.func3, Try.ntmps3
  go_wp2_with fail
  refine (zz8 a n c w).mono ?_
  rintro e w' ⟨b, rfl, rfl, hb⟩
  cases b with
  | false =>
    go_wp2
    go_ret
    exact ⟨rfl, Below.refl _ _⟩
  | true =>
    have hn := hb rfl
    clear hb
    by_cases hbig : 65536 < n
    · go_wp2
      go_ret
      exact ⟨rfl, Below.refl _ _⟩
    · have db : decide ((65536 : Int) < (n : Int)) = false := decide_eq_false (by omega)
      go_wp2_with fail
      refine (clone_all a n c Z _ hn H.out.1 H.out.2).mono ?_
      rintro e w1 ⟨hb, a', rfl, hB, _⟩
      have HB : Hid (Below w'.heap.size w' w1) := hb
      have HY : Hid (Bytes w1 a' n Z) := hB
      clear hb hB H
      go_wp2_with fail
      refine (zzdecimal_any a' n n Z _ hn HY.out HS.out).mono ?_
      rintro e w2 ⟨rfl, hp⟩
      obtain ⟨v, ok, hv, hvok⟩ : ∃ v ok, e = .returned (.tuple #[.int .i64 v, .bool ok]) ∧ ((ok = true ∧ allD Z n ∧ v = dec Z n) ∨ (ok = false ∧ ¬ allD Z n ∧ v = 0)) := by
        rcases hp with ⟨hp, rfl⟩ | ⟨hp, rfl⟩
        · exact ⟨_, _, rfl, .inl ⟨rfl, hp, rfl⟩⟩
        · exact ⟨_, _, rfl, .inr ⟨rfl, hp, rfl⟩⟩
      subst hv
      have HV : Hid ((ok = true ∧ allD Z n ∧ v = dec Z n) ∨ (ok = false ∧ ¬ allD Z n ∧ v = 0)) := hvok
      clear hvok hp
      go_wp2_with fail
      go_loop [5, 6] (fun f i => ∃ k : Nat, k ≤ n ∧ i = .int .i64 k ∧ f = .bool (allB Z k)) (fun _ i => n - (intOf i).toNat)
      case atStart => exact ⟨0, Nat.zero_le _, rfl, rfl⟩
      case round =>
        obtain ⟨k, hk, rfl, rfl⟩ := hrel
        by_cases hlt : k < n
        · obtain ⟨b, off, rfl, hc⟩ := HY.out (by omega)
          have hck := hc k hlt
          clear hc
          cases hdg : digB (Z k) with
          | true =>
            have HE : Hid (allB Z (k + 1) = allB Z k) := by show (allB Z k && digB (Z k)) = _; rw [hdg, Bool.and_true]
            have HD : Hid (digB (Z k) = true) := hdg
            clear hdg
            go_wp2_with (go_at_call 11; refine (isDigit_any _ _).mono ?_; rintro e w3 ⟨rfl, rfl⟩; rw [HD.out])
            go_round
            case rel => exact ⟨k + 1, by omega, by go_num, by rw [HE.out]⟩
            case measure => simp [intOf]; omega
          | false =>
            have HE : Hid (allB Z (k + 1) = false) := by show (allB Z k && digB (Z k)) = _; rw [hdg, Bool.and_false]
            have HD : Hid (digB (Z k) = false) := hdg
            clear hdg
            go_wp2_with (go_at_call 11; refine (isDigit_any _ _).mono ?_; rintro e w3 ⟨rfl, rfl⟩; rw [HD.out])
            go_round
            case rel => exact ⟨k + 1, by omega, by go_num, by rw [HE.out]⟩
            case measure => simp [intOf]; omega
        · obtain rfl : n = k := by omega
          clear hlt hk
          cases hall : allB Z n with
          | false =>
            have hno : ¬ allD Z n := fun hh => by rw [(allB_iff Z n).2 hh] at hall; cases hall
            obtain ⟨rfl, rfl⟩ : ok = false ∧ v = 0 := by
              rcases HV.out with ⟨_, h, _⟩ | ⟨h1, _, h2⟩
              · exact absurd h hno
              · exact ⟨h1, h2⟩
            clear hall hno HV
            go_wp2
            go_ret
            exact ⟨rfl, HB.out⟩
          | true =>
            have hyes : allD Z n := (allB_iff Z n).1 hall
            obtain ⟨rfl, hv⟩ : ok = true ∧ v = dec Z n := by
              rcases HV.out with ⟨h1, _, h2⟩ | ⟨_, h, _⟩
              · exact ⟨h1, h2⟩
              · exact absurd hyes h
            have HV2 : Hid (v = wrap64 (T Z n n)) := by show v = _; rw [hv, dec_V, V_all]
            have HA : Hid (allD Z n) := hyes
            clear hall hyes HV hv
            go_wp2
            go_loop [7, 8, 9] (fun t p i => ∃ (m : Nat) (tv pv x : Int), m ≤ n ∧ t = .int .i64 tv ∧ p = .int .i64 pv ∧ i = .int .i64 x ∧ x + m + 1 = n ∧ tv = wrap64 (T Z n m) ∧ pv = wrap64 (10 ^ m)) (fun _ _ i => (intOf i + 1).toNat)
            case atStart => exact ⟨0, 0, 1, _, Nat.zero_le _, rfl, rfl, rfl, by omega, by simp [T, wrap64], by simp [wrap64]⟩
            case round =>
              obtain ⟨m, tv, pv, x, hm, rfl, rfl, rfl, hx, ht, hp⟩ := hrel
              have HT : Hid (tv = wrap64 (T Z n m)) := ht
              have HP : Hid (pv = wrap64 (10 ^ m)) := hp
              clear ht hp
              by_cases hlt : m < n
              · obtain ⟨j, rfl⟩ := Int.eq_ofNat_of_zero_le (show 0 ≤ x by omega)
                have hj : j < n := by omega
                have HJ : Hid (n - 1 - m = j) := by show n - 1 - m = j; omega
                obtain ⟨b, off, rfl, hc⟩ := HY.out (by omega)
                have hck := hc j hj
                clear hc hx
                obtain ⟨z0, z1⟩ := (digB_iff _).1 (HA.out j hj)
                go_wp2
                go_round
                case rel =>
                  refine ⟨m + 1, _, _, _, by omega, rfl, rfl, rfl, ?_, ?_, ?_⟩
                  · have := HJ.out; omega
                  · rw [← T_step Z n m (Z j - 48) (by rw [HJ.out]), HT.out, HP.out]
                  · rw [← pow_step, HP.out]
                case measure => simp [intOf]
              · obtain rfl : n = m := by omega
                obtain rfl : v = tv := by rw [HV2.out, HT.out]
                go_wp2
                go_ret
                exact ⟨by simp, HB.out⟩
end Go.Proofs.Qxb6602615a.dig
