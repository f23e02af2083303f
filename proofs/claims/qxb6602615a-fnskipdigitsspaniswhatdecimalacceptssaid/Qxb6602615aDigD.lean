/-
  Seat b6602615a: the walk of FnSkipDigitsSpanIsWhatDecimalAccepts (7).
-/
import Derived.Test.Qxb6602615aDigA
namespace Go.Proofs.Qxb6602615a.dig
open Go.RowKit Go.Deep

def PostLaw7 (w : World) (e : Ending) (w' : World) : Prop := e = .returned (.bool true) ∧ Below w.heap.size w w'

/-- decimal's answer, its first part left open. -/
def PostOk (w : World) (ok : Bool) (e : Ending) (w' : World) : Prop := w' = w ∧ ∃ v, e = .returned (.tuple #[.int .i64 v, .bool ok])
theorem ok_of {w : World} {n : Nat} {Z : Nat → Int} {e : Ending} {w' : World} (h : PostD w n Z e w') (ok : Bool) (hok : ok = true ↔ allD Z n) : PostOk w ok e w' := by
  obtain ⟨rfl, ⟨h, rfl⟩ | ⟨h, rfl⟩⟩ := h
  · obtain rfl : ok = true := hok.2 h
    exact ⟨rfl, _, rfl⟩
  · obtain rfl : ok = false := by cases ok; rfl; exact absurd (hok.1 rfl) h
    exact ⟨rfl, _, rfl⟩

theorem dec_none (a : Option Addr) (c : Nat) (w : World) : Calls Try.prog 10 #[.slice a 0 c] w (PostOk w true) :=
  (zzdecimal_any a 0 c (fun _ => 0) w (Nat.zero_le _) (fun h => absurd h (Nat.lt_irrefl _)) (fun _ h => absurd h (Nat.not_lt_zero _))).mono fun _ _ h => ok_of h true ⟨fun _ _ h => absurd h (Nat.not_lt_zero _), fun _ => rfl⟩

/-- ok: are bytes i .. i+m-1 all digits? -/
def OkIs (ok : Bool) (i m : Nat) (Z : Nat → Int) : Prop := ok = true ↔ ∀ q, i ≤ q → q < i + m → digB (Z q) = true
theorem ok_yes {i j : Nat} {Z : Nat → Int} (hij : i ≤ j) (h : ∀ q, i ≤ q → q < j → digB (Z q) = true) : OkIs true i (j - i) Z := ⟨fun _ q q1 q2 => h q q1 (by omega), fun _ => rfl⟩
theorem ok_no {i m j : Nat} {Z : Nat → Int} (h1 : i ≤ j) (h2 : j < i + m) (h : digB (Z j) = false) : OkIs false i m Z := ⟨fun e => (by cases e), fun hh => (by rw [hh j h1 h2] at h; cases h)⟩

/-- decimal of a part of the row at block B. -/
theorem dec_part (B n i m c : Nat) (Z : Nat → Int) (w : World) (ok : Bool) (hn : n ≤ 1048576) (him : i + m ≤ n) (h : Bytes w (some ⟨B, 0, none⟩) n Z) (hs : Small n Z) (hok : OkIs ok i m Z) :
    Calls Try.prog 10 #[.slice (some ⟨B, i, none⟩) m c] w (PostOk w ok) := by
  refine (zzdecimal_any (some ⟨B, i, none⟩) m c (fun q => Z (i + q)) w (by omega) ?_ (fun q hq => hs (i + q) (by omega))).mono fun _ _ h => ok_of h ok (Iff.trans hok ?_)
  · intro hm
    obtain ⟨b, off, e, hc⟩ := h (by omega)
    simp only [Option.some.injEq, Addr.mk.injEq, and_true] at e
    obtain ⟨rfl, rfl⟩ := e
    exact ⟨B, i, rfl, fun q hq => by have := hc (i + q) (by omega); rwa [Nat.zero_add] at this⟩
  · constructor
    · intro h q hq
      exact h (i + q) (by omega) (by omega)
    · intro h q q1 q2
      have := h (q - i) (by omega)
      have e : i + (q - i) = q := by omega
      simpa only [e] using this

set_option maxHeartbeats 400000 in
theorem law7 (a : Option Addr) (n c : Nat) (Z : Nat → Int) (i : Int) (w : World) (hnil : a = none → n = 0 ∧ c = 0) (h : Bytes w a n Z) (hs : Small n Z) :
    Calls Try.prog 7 #[.slice a n c, .int .i64 i] w (PostLaw7 w) := by
  have H : Hid ((a = none → n = 0 ∧ c = 0) ∧ Bytes w a n Z) := ⟨hnil, h⟩
  have HS : Hid (Small n Z) := hs
  clear h hs hnil
  go_enter Try.func7, Try.ntmps7
  go_wp2_with fail
  refine (zz16 a n c i w).mono ?_
  rintro e w' ⟨b, rfl, rfl, hb⟩
  cases b with
  | false =>
    go_wp2
    go_ret
    exact ⟨rfl, Below.refl _ _⟩
  | true =>
    have hn := hb rfl
    clear hb
    by_cases hbig : 65536 < n
    · go_wp2
      go_ret
      exact ⟨rfl, Below.refl _ _⟩
    · by_cases hneg : i < 0
      · go_wp2
        go_ret
        exact ⟨rfl, Below.refl _ _⟩
      · by_cases hgt : (n : Int) < i
        · go_wp2
          go_ret
          exact ⟨rfl, Below.refl _ _⟩
        · obtain ⟨i, rfl⟩ := Int.eq_ofNat_of_zero_le (show 0 ≤ i by omega)
          have hin : i ≤ n := by omega
          have db : decide ((65536 : Int) < (n : Int)) = false := decide_eq_false (by omega)
          have dn : decide ((i : Int) < 0) = false := decide_eq_false (by omega)
          have dg : decide (n < i) = false := decide_eq_false (by omega)
          clear hneg hgt
          go_wp2_with fail
          refine (clone_all a n c Z _ hn H.out.1 H.out.2).mono ?_
          rintro e w1 ⟨hb, a', rfl, hB, ha'⟩
          have HB : Hid (Below w'.heap.size w' w1) := hb
          have HY : Hid (Bytes w1 a' n Z) := hB
          clear hb hB H
          go_wp2_with fail
          refine (zzskip_any a' n n i Z _ hn (by omega) HY.out HS.out).mono ?_
          rintro e w2 ⟨rfl, j, rfl, hij, hjn, hdig, hstop⟩
          have HD : Hid (∀ k, i ≤ k → k < j → digB (Z k) = true) := hdig
          have HT : Hid (j < n → digB (Z j) = false) := hstop
          have hjn' : j ≤ n := by omega
          clear hdig hstop hjn
          have d2 : decide (j < i) = false := decide_eq_false (by omega)
          have d3 : decide (n < j) = false := decide_eq_false (by omega)
          by_cases hie : i = n
          · obtain rfl : j = i := by omega
            obtain rfl : n = j := by omega
            clear ha' HD HT HY HS
            have d4 : decide ((n : Int) < (n : Int)) = false := decide_eq_false (by omega)
            go_wp2_with (go_at_call 10; refine (dec_none _ _ _).mono ?_; rintro e w3 ⟨rfl, v, rfl⟩)
            all_goals
              go_ret
              exact ⟨rfl, HB.out⟩
          · have hil : i < n := by omega
            obtain rfl : a' = some ⟨w'.heap.size, 0, none⟩ := by
              rcases ha' with rfl | h
              · obtain ⟨_, _, h, _⟩ := HY.out (by omega)
                cases h
              · exact h
            clear hie ha'
            have H1 := ok_yes hij HD.out
            go_wp2_with fail
            refine (dec_part w'.heap.size n i (j - i) (n - i) Z _ true hn (by omega) HY.out HS.out H1).mono ?_
            rintro e w3 ⟨rfl, v, rfl⟩
            by_cases hjl : j < n
            · have H2 : OkIs false j 1 Z := ok_no (Nat.le_refl _) (by omega) (HT.out hjl)
              have H3 : OkIs false i (n - i) Z := ok_no hij (by omega) (HT.out hjl)
              go_wp2_with fail
              refine (dec_part w'.heap.size n j 1 (n - j) Z _ false hn (by omega) HY.out HS.out H2).mono ?_
              rintro e w4 ⟨rfl, v4, rfl⟩
              go_wp2_with fail
              refine (dec_part w'.heap.size n i (n - i) (n - i) Z _ false hn (by omega) HY.out HS.out H3).mono ?_
              rintro e w5 ⟨rfl, v5, rfl⟩
              go_wp2
              all_goals
                go_ret
                exact ⟨rfl, HB.out⟩
            · obtain rfl : n = j := by omega
              go_wp2_with fail
              refine (dec_part w'.heap.size n i (n - i) (n - i) Z _ true hn (by omega) HY.out HS.out H1).mono ?_
              rintro e w5 ⟨rfl, v5, rfl⟩
              go_wp2
              go_ret
              exact ⟨rfl, HB.out⟩
end Go.Proofs.Qxb6602615a.dig
