/-
  Seat b6602643a: ZZBitWriterSet at every width from 1 to 64; the plain law on bits.
-/
import Derived.Test.Qxb6602643aBitD
namespace Go.Proofs.Qxb6602643a.bit
open Go.RowKit Go.Deep

def maskM (wd : Nat) : Nat := 18446744073709551615 / 2 ^ (64 - wd)
theorem maskM_lt (wd : Nat) : maskM wd < 18446744073709551616 := Nat.lt_of_le_of_lt (Nat.div_le_self _ _) (by decide)
theorem maskM_cast (wd : Nat) : (18446744073709551615 : Int) / 2 ^ (64 - wd) = (maskM wd : Nat) := by
  unfold maskM
  rw [Int.natCast_ediv, Int.natCast_pow]
  rfl
def lenW (len at_ wd : Nat) : Nat := if 64 * len < at_ + wd then (at_ + wd + 63) / 64 else len
/-- The words behind the write. -/
def resW (len at_ v wd : Nat) (Z : Nat → Nat) : Nat → Nat := newW (maskM wd) (at_ / 64) (at_ % 64) v wd (padW len Z)

theorem newW_pad {M k s v wd len : Nat} {Z : Nat → Nat} (hk : k < len) (hk1 : 64 < s + wd → k + 1 < len) {i : Nat} (hi : i < len) : newW M k s v wd (padW len Z) i = newW M k s v wd Z i := by
  have e : ∀ j, j < len → padW len Z j = Z j := fun j hj => if_pos hj
  unfold newW
  by_cases h1 : i = k
  · rw [if_pos h1, if_pos h1, e k hk]
  · rw [if_neg h1, if_neg h1]
    by_cases h2 : i = k + 1 ∧ 64 < s + wd
    · rw [if_pos h2, if_pos h2, e _ (hk1 h2.2)]
    · rw [if_neg h2, if_neg h2, e i hi]

theorem zzset_any (sp : Option Addr) (g len n at_ v wd : Nat) (Z : Nat → Nat) (w : World) (hwd : 1 ≤ wd) (hwd2 : wd ≤ 64) (hat : at_ ≤ 1048576) (hv : v < 18446744073709551616) (hlen : len ≤ 1048576) (hZ : ∀ i, Z i < 18446744073709551616)
    (hr : Old w sp g len Z) : Calls Try.prog 12 #[.slice sp len len, .int .u64 n, .int .u64 at_, .int .u64 v, .int .i64 wd] w (PostZ w g (lenW len at_ wd) at_ wd n (resW len at_ v wd Z)) := by
  refine zzset_of sp g len (lenW len at_ wd) n at_ v wd _ w fun c hc => ?_
  subst hc
  have c0 : (w.alloc (.cells #[.slice sp len len, .int .u64 (n : Nat)] 57)).cell? ⟨w.heap.size, 0, none⟩ = some (.slice sp len len) := by simp
  have c1 : (w.alloc (.cells #[.slice sp len len, .int .u64 (n : Nat)] 57)).cell? ⟨w.heap.size, 1, none⟩ = some (.int .u64 (n : Nat)) := by simp
  have f0 : ∀ j, (w.alloc (.cells #[.slice sp len len, .int .u64 (n : Nat)] 57)).frozen? ⟨w.heap.size, j, none⟩ = false := fun j => frozen_of_row _ _ j _ _ (blk_alloc_new _ _)
  have hk : (at_ : Int) / 64 = ((at_ / 64 : Nat) : Int) := by omega
  have hs : (at_ : Int) % 64 = ((at_ % 64 : Nat) : Int) := by omega
  have hO : Old (w.alloc (.cells #[.slice sp len len, .int .u64 (n : Nat)] 57)) sp g len Z := ⟨hr.1, fun h => ⟨(hr.2 h).1, (hr.2 h).2.alloc _⟩⟩
  unfold lenW
  by_cases hg : 64 * len < at_ + wd
  · rw [if_pos hg]
    exact set_grows w.heap.size g len ((at_ + wd + 63) / 64) (at_ / 64) (at_ % 64) n at_ v wd (maskM wd) sp Z _ hwd hwd2 hat hv hlen hZ hk hs (maskM_cast wd) (maskM_lt wd) (by omega) c0 c1 f0 hO hg
  · rw [if_neg hg]
    obtain ⟨rfl, hrow⟩ := hr.2 (by omega)
    refine (set_fits w.heap.size g len (at_ / 64) (at_ % 64) n at_ v wd (maskM wd) Z _ hwd hwd2 hat hv hlen hZ hk hs (maskM_cast wd) (maskM_lt wd) (by have := hrow.lt; omega) c0 c1 f0 (hrow.alloc _) (by omega)).mono ?_
    rintro e w' ⟨he, hkp, g', hgp, d0, d1, hrow'⟩
    exact ⟨he, hkp, g', hgp, d0, d1, hrow'.congr fun i hi => by rw [resW, newW_pad (by omega) (fun _ => by omega) hi]⟩

/-! ### The plain law -/
theorem mask_bit (wd t : Nat) (h : wd ≤ 64) : (maskM wd).testBit t = decide (t < wd) := by
  have e : maskM wd = (2 ^ 64 - 1) >>> (64 - wd) := by rw [Nat.shiftRight_eq_div_pow]; rfl
  rw [e, Nat.testBit_shiftRight, Nat.testBit_two_pow_sub_one]
  congr 1
  exact propext (by omega)
theorem not_bit (x t : Nat) (hx : x < 18446744073709551616) (ht : t < 64) : (18446744073709551615 - x).testBit t = !x.testBit t := by
  have h := Nat.testBit_two_pow_sub_succ (x := x) (n := 64) (by simpa using hx) t
  have e : 2 ^ 64 - (x + 1) = 18446744073709551615 - x := by omega
  rw [e] at h
  rw [h]
  simp [ht]
theorem shl_bit (x s t : Nat) (ht : t < 64) : (x * 2 ^ s % 18446744073709551616).testBit t = (decide (s ≤ t) && x.testBit (t - s)) := by
  have e : (18446744073709551616 : Nat) = 2 ^ 64 := by decide
  rw [e, Nat.testBit_mod_two_pow, ← Nat.shiftLeft_eq, Nat.testBit_shiftLeft]
  simp [ht]
theorem shr_bit (x s t : Nat) : (x / 2 ^ s).testBit t = x.testBit (s + t) := by
  rw [← Nat.shiftRight_eq_div_pow, Nat.testBit_shiftRight]
theorem v_bit {v wd q : Nat} (hv : v < 2 ^ wd) (hq : wd ≤ q) : v.testBit q = false := Nat.testBit_lt_two_pow (Nat.lt_of_lt_of_le hv (Nat.pow_le_pow_right (by decide) hq))
theorem low_bit (wd s v x t : Nat) (hwd : wd ≤ 64) (hv : v < 2 ^ wd) (ht : t < 64) : (lowW (maskM wd) s v x).testBit t = if s ≤ t ∧ t < s + wd then v.testBit (t - s) else x.testBit t := by
  have m1 := Nat.mod_lt (maskM wd * 2 ^ s) (show 0 < 18446744073709551616 by decide)
  unfold lowW
  rw [Nat.testBit_or, Nat.testBit_and, not_bit _ _ m1 ht, shl_bit _ _ _ ht, shl_bit _ _ _ ht, mask_bit _ _ hwd]
  by_cases h1 : s ≤ t
  · by_cases h2 : t < s + wd
    · have h3 : t - s < wd := by omega
      simp [h1, h2, h3]
    · have h3 : ¬ t - s < wd := by omega
      rw [v_bit (q := t - s) hv (by omega)]
      simp [h1, h2, h3]
  · simp [h1]
theorem high_bit (wd s v x t : Nat) (hwd : wd ≤ 64) (hv : v < 2 ^ wd) (ht : t < 64) : (highW (maskM wd) s v x).testBit t = if 64 - s + t < wd then v.testBit (64 - s + t) else x.testBit t := by
  have m1 : maskM wd / 2 ^ (64 - s) < 18446744073709551616 := Nat.lt_of_le_of_lt (Nat.div_le_self _ _) (maskM_lt wd)
  unfold highW
  rw [Nat.testBit_or, Nat.testBit_and, not_bit _ _ m1 ht, shr_bit, shr_bit, mask_bit _ _ hwd]
  by_cases h2 : 64 - s + t < wd
  · simp [h2]
  · rw [v_bit (q := 64 - s + t) hv (by omega)]
    simp [h2]

/-- The bit that the law wants at place t of word i. -/
def wantB (at_ v wd old i t : Nat) : Bool := if at_ ≤ 64 * i + t ∧ 64 * i + t < at_ + wd then v.testBit (64 * i + t - at_) else old.testBit t
/-- What the law has gathered behind b rounds. -/
def wantW (at_ v wd old i : Nat) : Nat → Nat
  | 0 => 0
  | b + 1 => wantW at_ v wd old i b ||| (wantB at_ v wd old i b).toNat * 2 ^ b
theorem want_lt (at_ v wd old i : Nat) : ∀ b, wantW at_ v wd old i b < 2 ^ b
  | 0 => by simp [wantW]
  | b + 1 => by
    have h := want_lt at_ v wd old i b
    have h2 : (wantB at_ v wd old i b).toNat * 2 ^ b < 2 ^ (b + 1) := by
      rw [Nat.pow_succ]
      have hp : 0 < 2 ^ b := Nat.pow_pos (by decide)
      cases wantB at_ v wd old i b <;> simp <;> omega
    exact Nat.or_lt_two_pow (Nat.lt_of_lt_of_le h (Nat.pow_le_pow_right (by decide) (by omega))) h2
theorem want_bit (at_ v wd old i : Nat) : ∀ b t, (wantW at_ v wd old i b).testBit t = (decide (t < b) && wantB at_ v wd old i t)
  | 0, t => by simp [wantW]
  | b + 1, t => by
    show (wantW at_ v wd old i b ||| (wantB at_ v wd old i b).toNat * 2 ^ b).testBit t = _
    rw [Nat.testBit_or, want_bit at_ v wd old i b t, ← Nat.shiftLeft_eq, Nat.testBit_shiftLeft]
    by_cases h1 : t < b
    · have : ¬ b ≤ t := by omega
      have h2 : t < b + 1 := by omega
      simp [h1, this, h2]
    · by_cases h2 : t = b
      · subst h2
        cases wantB at_ v wd old i t <;> simp
      · have h3 : ¬ t < b + 1 := by omega
        have h4 : (wantB at_ v wd old i b).toNat.testBit (t - b) = false := by
          obtain ⟨j, hj⟩ : ∃ j, t - b = j + 1 := ⟨t - b - 1, by omega⟩
          rw [hj]
          cases wantB at_ v wd old i b <;> simp [Nat.testBit_succ]
        simp [h1, h3, h4]

theorem low_lt (M s v x : Nat) (hx : x < 18446744073709551616) : lowW M s v x < 2 ^ 64 :=
  Nat.or_lt_two_pow (Nat.lt_of_le_of_lt Nat.and_le_left hx) (Nat.mod_lt _ (by decide))
theorem high_lt (M s v x : Nat) (hx : x < 18446744073709551616) (hv : v < 18446744073709551616) : highW M s v x < 2 ^ 64 :=
  Nat.or_lt_two_pow (Nat.lt_of_le_of_lt Nat.and_le_left hx) (Nat.lt_of_le_of_lt (Nat.div_le_self _ _) hv)

theorem eq_bits {x y : Nat} (hx : x < 2 ^ 64) (hy : y < 2 ^ 64) (h : ∀ t, t < 64 → x.testBit t = y.testBit t) : x = y := by
  apply Nat.eq_of_testBit_eq
  intro t
  by_cases ht : t < 64
  · exact h t ht
  · have hp : 2 ^ 64 ≤ 2 ^ t := Nat.pow_le_pow_right (by decide) (by omega)
    rw [Nat.testBit_lt_two_pow (Nat.lt_of_lt_of_le hx hp), Nat.testBit_lt_two_pow (Nat.lt_of_lt_of_le hy hp)]

/-- THE PLAIN LAW: a word that the range meets. -/
theorem law_in (len at_ v wd i : Nat) (Z : Nat → Nat) (hwd : 1 ≤ wd) (hwd2 : wd ≤ 64) (hv : v < 2 ^ wd) (hv64 : v < 18446744073709551616) (hZ : ∀ i, Z i < 18446744073709551616)
    (h1 : 64 * i < at_ + wd) (h2 : at_ < 64 * i + 64) : resW len at_ v wd Z i = wantW at_ v wd (padW len Z i) i 64 := by
  unfold resW newW
  by_cases e : i = at_ / 64
  · rw [if_pos e]
    refine eq_bits (low_lt _ _ _ _ (padW_lt hZ _)) (want_lt _ _ _ _ _ 64) fun t ht => ?_
    rw [low_bit _ _ _ _ _ hwd2 hv ht, want_bit, ← e]
    unfold wantB
    by_cases c : at_ % 64 ≤ t ∧ t < at_ % 64 + wd
    · rw [if_pos c, if_pos (by omega)]
      have e2 : 64 * i + t - at_ = t - at_ % 64 := by omega
      simp [ht, e2]
    · rw [if_neg c, if_neg (by omega)]
      simp [ht]
  · have e2 : i = at_ / 64 + 1 := by omega
    rw [if_neg e, if_pos ⟨e2, by omega⟩]
    refine eq_bits (high_lt _ _ _ _ (padW_lt hZ _) hv64) (want_lt _ _ _ _ _ 64) fun t ht => ?_
    rw [high_bit _ _ _ _ _ hwd2 hv ht, want_bit, ← e2]
    unfold wantB
    by_cases c : 64 - at_ % 64 + t < wd
    · rw [if_pos c, if_pos (by omega)]
      have e3 : 64 * i + t - at_ = 64 - at_ % 64 + t := by omega
      simp [ht, e3]
    · rw [if_neg c, if_neg (by omega)]
      simp [ht]
/-- THE PLAIN LAW: a word that it does not meet. -/
theorem law_out (len at_ v wd i : Nat) (Z : Nat → Nat) (hwd : 1 ≤ wd) (h : ¬ (64 * i < at_ + wd ∧ at_ < 64 * i + 64)) : resW len at_ v wd Z i = padW len Z i := by
  unfold resW newW
  rw [if_neg (by omega), if_neg (by omega)]

/-! ### The law's inner loop, as the walk spells its step -/
theorem and_one (x q : Nat) (hx : x < 18446744073709551616) : bits BinOp.and IntKind.u64 ((x : Int) / 2 ^ q) 1 = (((x.testBit q).toNat : Nat) : Int) := by
  have e1 : ((x : Int) / 2 ^ q) = ((x / 2 ^ q : Nat) : Int) := by rw [Int.natCast_ediv, Int.natCast_pow]; rfl
  have h := u64_and_nat (x / 2 ^ q) 1 (Nat.lt_of_le_of_lt (Nat.div_le_self _ _) hx) (by decide)
  rw [e1, Nat.toNat_testBit, ← Nat.and_one_is_mod]
  exact h
theorem or_step (y b t : Nat) (hb : b ≤ 1) (ht : t < 64) (hy : y < 18446744073709551616) : bits BinOp.or IntKind.u64 (y : Int) (IntKind.u64.wrap ((b : Int) * 2 ^ t)) = ((y ||| b * 2 ^ t : Nat) : Int) := by
  have e1 : ((b : Int) * 2 ^ t) = ((b * 2 ^ t : Nat) : Int) := by rw [Int.natCast_mul, Int.natCast_pow]; rfl
  have h1 : b * 2 ^ t < 18446744073709551616 := by
    have h2 : 2 ^ t ≤ 2 ^ 63 := Nat.pow_le_pow_right (by decide) (by omega)
    have h3 : b * 2 ^ t ≤ 1 * 2 ^ t := Nat.mul_le_mul_right _ hb
    have h4 : (2 : Nat) ^ 63 < 18446744073709551616 := by decide
    omega
  rw [e1, wrap_nat, Nat.mod_eq_of_lt h1, u64_or_nat _ _ hy h1]
theorem toNat_le (b : Bool) : b.toNat ≤ 1 := by cases b <;> decide
theorem want_lt64 (at_ v wd old i t : Nat) (ht : t ≤ 64) : wantW at_ v wd old i t < 18446744073709551616 :=
  Nat.lt_of_lt_of_le (want_lt at_ v wd old i t) (show 2 ^ t ≤ 2 ^ 64 from Nat.pow_le_pow_right (by decide) ht)
theorem step_in {at_ v wd old k t y : Nat} (hy : y = wantW at_ v wd old k t) (hv : v < 18446744073709551616) (ht : t < 64) (h1 : at_ ≤ 64 * k + t) (h2 : 64 * k + t < at_ + wd) :
    bits BinOp.or IntKind.u64 (y : Int) (IntKind.u64.wrap (bits BinOp.and IntKind.u64 ((v : Int) / 2 ^ (k * 64 + t - at_)) 1 * 2 ^ t)) = ((wantW at_ v wd old k (t + 1) : Nat) : Int) := by
  subst hy
  have e : k * 64 + t - at_ = 64 * k + t - at_ := by omega
  rw [and_one _ _ hv, or_step _ _ _ (toNat_le _) ht (want_lt64 _ _ _ _ _ _ (by omega)), e]
  have hb : wantB at_ v wd old k t = v.testBit (64 * k + t - at_) := if_pos ⟨h1, h2⟩
  rw [← hb]
  rfl
theorem step_out {at_ v wd old k t y : Nat} (hy : y = wantW at_ v wd old k t) (ho : old < 18446744073709551616) (ht : t < 64) (h : ¬ (at_ ≤ 64 * k + t ∧ 64 * k + t < at_ + wd)) :
    bits BinOp.or IntKind.u64 (y : Int) (IntKind.u64.wrap (bits BinOp.and IntKind.u64 ((old : Int) / 2 ^ t) 1 * 2 ^ t)) = ((wantW at_ v wd old k (t + 1) : Nat) : Int) := by
  subst hy
  rw [and_one _ _ ho, or_step _ _ _ (toNat_le _) ht (want_lt64 _ _ _ _ _ _ (by omega))]
  have hb : wantB at_ v wd old k t = old.testBit t := if_neg h
  rw [← hb]
  rfl
theorem step_zero {at_ v wd k t y : Nat} (hy : y = wantW at_ v wd 0 k t) (ht : t < 64) (h : ¬ (at_ ≤ 64 * k + t ∧ 64 * k + t < at_ + wd)) :
    bits BinOp.or IntKind.u64 (y : Int) (IntKind.u64.wrap (bits BinOp.and IntKind.u64 0 1 * 2 ^ t)) = ((wantW at_ v wd 0 k (t + 1) : Nat) : Int) := by
  have h0 := step_out (old := 0) hy (by decide) ht h
  have e : ((0 : Nat) : Int) / 2 ^ t = 0 := by simp
  rw [e] at h0
  exact h0
end Go.Proofs.Qxb6602643a.bit
