/-
  Seat b6602615a: the walk of FnSkipDigitsStopsAtFirstNonDigit (5).
-/
import Derived.Test.Qxb6602615aDigA
namespace Go.Proofs.Qxb6602615a.dig
open Go.RowKit Go.Deep

def PostLaw5 (w : World) (e : Ending) (w' : World) : Prop := e = .returned (.bool true) ∧ Below w.heap.size w w'

set_option maxHeartbeats 400000 in
theorem law5 (a : Option Addr) (n c : Nat) (Z : Nat → Int) (i : Int) (w : World) (hi : i ≤ 9223372036854775807) (hnil : a = none → n = 0 ∧ c = 0) (h : Bytes w a n Z) (hs : Small n Z) :
    Calls Try.prog 5 #[.slice a n c, .int .i64 i] w (PostLaw5 w) := by
  have H : Hid ((a = none → n = 0 ∧ c = 0) ∧ Bytes w a n Z) := ⟨hnil, h⟩
  have HS : Hid (Small n Z) := hs
  clear h hs hnil
  go_enter Try.func5, Try.ntmps5
  go_wp2_with fail
  refine (zz13 a n c i w).mono ?_
  rintro e w' ⟨b, rfl, rfl, hb⟩
  cases b with
  | false =>
    go_wp2
    go_ret
    exact ⟨rfl, Below.refl _ _⟩
  | true =>
    have hn := hb rfl
    clear hb
    by_cases hbig : 65536 < n
    · go_wp2
      go_ret
      exact ⟨rfl, Below.refl _ _⟩
    · by_cases hneg : i < 0
      · go_wp2
        go_ret
        exact ⟨rfl, Below.refl _ _⟩
      · obtain ⟨i, rfl⟩ := Int.eq_ofNat_of_zero_le (show 0 ≤ i by omega)
        have db : decide ((65536 : Int) < (n : Int)) = false := decide_eq_false (by omega)
        have dn : decide ((i : Int) < 0) = false := decide_eq_false (by omega)
        go_wp2_with fail
        refine (clone_all a n c Z _ hn H.out.1 H.out.2).mono ?_
        rintro e w1 ⟨hb, a', rfl, hB, _⟩
        have HB : Hid (Below w'.heap.size w' w1) := hb
        have HY : Hid (Bytes w1 a' n Z) := hB
        clear hb hB H
        go_wp2_with fail
        refine (zzskip_any a' n n i Z _ hn (by omega) HY.out HS.out).mono ?_
        rintro e w2 ⟨rfl, j, rfl, hij, hjn, hdig, hstop⟩
        have HD : Hid (∀ k, i ≤ k → k < j → digB (Z k) = true) := hdig
        have HT : Hid (j < n → digB (Z j) = false) := hstop
        have HJ : Hid (j ≤ n ∨ j = i) := hjn
        clear hdig hstop hjn
        by_cases hin : n ≤ i
        · obtain rfl : j = i := by have := HJ.out; omega
          go_wp2
          go_ret
          exact ⟨by simp, HB.out⟩
        · have hjn' : j ≤ n := by have := HJ.out; omega
          clear HJ
          have d1 : decide (n ≤ i) = false := decide_eq_false (by omega)
          have d2 : decide (j < i) = false := decide_eq_false (by omega)
          have d3 : decide (n < j) = false := decide_eq_false (by omega)
          go_wp2_with fail
          go_loop [6] (fun x => ∃ k : Nat, i ≤ k ∧ k ≤ j ∧ x = .int .i64 k) (fun x => j - (intOf x).toNat)
          case atStart => exact ⟨i, Nat.le_refl _, hij, rfl⟩
          case round =>
            obtain ⟨k, hik, hkj, rfl⟩ := hrel
            by_cases hlt : k < j
            · obtain ⟨b, off, rfl, hc⟩ := HY.out (by omega)
              have hck := hc k (by omega)
              clear hc
              have HD' : Hid (digB (Z k) = true) := HD.out k hik hlt
              go_wp2_with (go_at_call 11; refine (isDigit_any _ _).mono ?_; rintro e w3 ⟨he, hw⟩; subst hw; rw [HD'.out] at he; subst he)
              go_round
              case rel => exact ⟨k + 1, by omega, by omega, by go_num⟩
              case measure => simp [intOf]; omega
            · by_cases hjl : j < n
              · obtain ⟨b, off, rfl, hc⟩ := HY.out (by omega)
                have hck := hc j (by omega)
                clear hc
                have HT' : Hid (digB (Z j) = false) := HT.out hjl
                go_wp2_with (go_at_call 11; refine (isDigit_any _ _).mono ?_; rintro e w3 ⟨rfl, rfl⟩; rw [HT'.out])
                go_ret
                exact ⟨rfl, HB.out⟩
              · go_wp2_with fail
                go_ret
                exact ⟨rfl, HB.out⟩
end Go.Proofs.Qxb6602615a.dig
