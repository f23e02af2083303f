/-
  Seat b6603793a: the walks of keptFrom (28) and wantBefore (34).
-/
import Derived.Test.Qxb6603793aHistR
import Derived.Test.Qxb6603793aHistJ
import Derived.Deep.CutBlock
import Derived.Deep.RegionHeld
namespace Go.Proofs.Qxb6603793a.hist
open Go.RowKit Go.Deep

theorem kept_any (a0 a1 a2 a3 : Option Addr) (n0 n1 n2 n3 c0 c1 c2 c3 : Nat) (c : Nat → Chg) (lim : Int) (t : Nat) (w : World) (hco : ∀ j, cost (c j) ≤ 8388608) (ht : t < 4096)
    (C29 : Hid (∀ j : Nat, Calls Try.prog 29 #[.slice a0 n0 c0, .slice a1 n1 c1, .slice a2 n2 c2, .slice a3 n3 c3, .int .i64 j] w fun e w'' => e = .returned (.int .i64 (cost (c j) : Nat)) ∧ w'' = w)) :
    Calls Try.prog 28 #[.slice a0 n0 c0, .slice a1 n1 c1, .slice a2 n2 c2, .slice a3 n3 c3, .int .i64 t, .int .i64 lim] w fun e w' => e = .returned (.int .i64 (kept c lim t : Nat)) ∧ w' = w := by
  have HZB : Hid (∀ s : Nat, costs (seg c s (t + 1)) ≤ 34359738368) := fun s => by
    have := costs_seg_le hco s (t + 1)
    have : (t + 1) * 8388608 ≤ 4096 * 8388608 := Nat.mul_le_mul_right _ ht
    omega
  have HCo : Hid (∀ j, cost (c j) ≤ 8388608) := hco
  have HU : Hid (∀ d, KF c lim t d → d = kept c lim t) := fun d h => kf_unique h (kept_kf lim t)
  have HK : Hid (kept c lim t ≤ t) := (kept_kf lim t).le
  clear hco
  generalize kept c lim t = kt at *
  go_enter Try.func28, Try.ntmps28
  go_wp2
  go_loop [13, 14, 15] (fun x y z => ∃ m : Nat, m ≤ t + 1 ∧ x = .int .i64 (costs (seg c m (t + 1)) : Nat) ∧ y = .int .i64 m ∧ z = .int .i64 ((m : Int) - 1) ∧ (m = t + 1 ∨ (costs (seg c m (t + 1)) : Nat) ≤ lim)) (fun _ _ z => (intOf z + 1).toNat)
  case atStart => exact ⟨t + 1, Nat.le_refl _, by rw [seg_nil (Nat.le_refl _)]; rfl, by go_num, by go_num, .inl rfl⟩
  case round =>
    obtain ⟨m, hm, rfl, rfl, rfl, hf⟩ := hrel
    cases m with
    | zero =>
      have hf' : (costs (seg c 0 (t + 1)) : Nat) ≤ lim := by
        rcases hf with h | h
        · omega
        · exact h
      have hk := HU.out 0 (kf_zero hf')
      have HKT : Hid (0 = kt) := hk
      clear hf hf' HU
      subst hk
      generalize costs (seg c 0 (t + 1)) = Z at *
      go_wp2
      go_ret
      exact ⟨rfl, rfl⟩
    | succ m =>
      have e1 : ((m + 1 : Nat) : Int) - 1 = (m : Nat) := by omega
      rw [e1]
      have HZ : Hid (costs (seg c m (t + 1)) = cost (c m) + costs (seg c (m + 1) (t + 1))) := costs_seg_cons (by omega)
      have hb0 := HZB.out (m + 1)
      have hb1 := HCo.out m
      have C29m : Hid (Calls Try.prog 29 #[.slice a0 n0 c0, .slice a1 n1 c1, .slice a2 n2 c2, .slice a3 n3 c3, .int .i64 m] w fun e w'' => e = .returned (.int .i64 (cost (c m) : Nat)) ∧ w'' = w) := C29.out m
      by_cases hle : ((cost (c m) + costs (seg c (m + 1) (t + 1)) : Nat) : Int) ≤ lim
      · generalize costs (seg c (m + 1) (t + 1)) = Z at *
        generalize cost (c m) = C at *
        have hd : decide (lim < (Z : Int) + (C : Int)) = false := decide_eq_false (by omega)
        go_wp2_with (go_at_call 29; refine Calls.mono C29m.out ?_; rintro e w6 ⟨rfl, hw6⟩; replace hw6 := hw6.symm; subst hw6)
        go_round
        case rel => exact ⟨m, by omega, by rw [HZ.out]; go_num, rfl, by go_num, .inr (by rw [HZ.out]; exact hle)⟩
        case measure => simp [intOf]
      · have hK := HU.out _ (kf_stop (m := m) (by omega) (by rw [HZ.out]; omega) (by rcases hf with h | h; exact .inr (by omega); exact .inl h))
        have HKT : Hid ((if m + 1 ≤ t then m + 1 else t) = kt) := hK
        clear hK hf HU
        generalize costs (seg c (m + 1) (t + 1)) = Z at *
        generalize cost (c m) = C at *
        have hd : decide (lim < (Z : Int) + (C : Int)) = true := decide_eq_true (by omega)
        by_cases hmt : m + 1 ≤ t
        · have hkt := HKT.out
          rw [if_pos hmt] at hkt
          subst hkt
          go_wp2_with (go_at_call 29; refine Calls.mono C29m.out ?_; rintro e w6 ⟨rfl, hw6⟩; replace hw6 := hw6.symm; subst hw6)
          go_ret
          exact ⟨rfl, rfl⟩
        · have hkt := HKT.out
          rw [if_neg hmt] at hkt
          subst hkt
          go_wp2_with (go_at_call 29; refine Calls.mono C29m.out ?_; rintro e w6 ⟨rfl, hw6⟩; replace hw6 := hw6.symm; subst hw6)
          go_ret
          exact ⟨rfl, rfl⟩

/-- The latest change of p's subject ahead of p, or none. -/
theorem last_same (c : Nat → Chg) (p : Nat) : (∀ q, q < p → ¬ Sm c q p) ∨ ∃ q, q < p ∧ Sm c q p ∧ ∀ j, q < j → j < p → ¬ Sm c j p := by
  have key : ∀ k, k ≤ p → (∀ q, q < k → ¬ Sm c q p) ∨ ∃ q, q < k ∧ Sm c q p ∧ ∀ j, q < j → j < k → ¬ Sm c j p := by
    intro k
    induction k with
    | zero => exact fun _ => .inl fun q h => by omega
    | succ k ih =>
      intro hk
      by_cases h : Sm c k p
      · exact .inr ⟨k, by omega, h, fun j h1 h2 => by omega⟩
      · rcases ih (by omega) with h1 | ⟨q, h1, h2, h3⟩
        · exact .inl fun q hq => by
            by_cases e : q = k
            · rw [e]; exact h
            · exact h1 q (by omega)
        · exact .inr ⟨q, by omega, h2, fun j a b => by
            by_cases e : j = k
            · rw [e]; exact h
            · exact h3 j a (by omega)⟩
  exact key p (Nat.le_refl _)
/-- The three ways of wantBefore. -/
inductive Ways (K L : Nat → ByteArray) (F : Nat → Nat) (R B : Nat → Int) (p : Nat) (v : Int) : Prop
  | none (h : ∀ q, q < p → same K L q p = false) (hv : v = B p)
  | kept (q : Nat) (hq : q < p) (hs : same K L q p = true) (hl : ∀ j, q < j → j < p → same K L j p = false) (hk : ∀ t, q ≤ t → t < p → F t ≤ q) (hv : v = R q)
  | gone (q : Nat) (hq : q < p) (hs : same K L q p = true) (hl : ∀ j, q < j → j < p → same K L j p = false) (t : Nat) (ht1 : q ≤ t) (ht2 : t < p) (hk : q < F t) (hv : v = B p)
theorem ways {c : Nat → Chg} {K L : Nat → ByteArray} {lim : Int} {R B : Nat → Int} {p : Nat} {v : Int} (hc : Subj c K L) (hR : ∀ j, (c j).rev = R j) (h : Want c lim B p v) : Ways K L (kept c lim) R B p v := by
  have hsm : ∀ {q p : Nat}, Sm c q p → same K L q p = true := fun {q p} hs => same_iff.2 ⟨by rw [← (hc q).1, ← (hc p).1]; exact hs.1, by rw [← (hc q).2, ← (hc p).2]; exact hs.2⟩
  have hno : ∀ {q p : Nat}, ¬ Sm c q p → same K L q p = false := fun {q p} hs => same_no.2 fun e => hs ⟨by rw [(hc q).1, (hc p).1]; exact e.1, by rw [(hc q).2, (hc p).2]; exact e.2⟩
  rcases h with ⟨q, h1, h2, h3, h4, h5⟩ | ⟨h1, h2⟩
  · refine .kept q h1 (hsm h2) (fun j a b => hno (h3 j a b)) (fun t ht1 ht2 => ?_) (by rw [h5, hR])
    have := from_mono (c := c) lim (show t + 1 ≤ p by omega)
    have h6 : kept c lim t ≤ from_ c lim p := this
    omega
  · rcases last_same c p with h | ⟨q, q1, q2, q3⟩
    · exact .none (fun q hq => hno (h q hq)) h2
    · have h4 := h1 q q1 q2
      obtain ⟨r, rfl⟩ : ∃ r, p = r + 1 := ⟨p - 1, by omega⟩
      exact .gone q q1 (hsm q2) (fun j a b => hno (q3 j a b)) r (by omega) (by omega) h4 h2

def ks (F : Nat → Nat) (i : Nat) : Value := .int .i64 (F i : Nat)
theorem want_any (aR aK aL aB aF : Option Addr) (nR nK nL nB n cR cK cL cB cF : Nat) (K L : Nat → ByteArray) (R B : Nat → Int) (F : Nat → Nat) (p : Nat) (v : Int) (w : World) (hR : Cells w aR nR (u64s R)) (hF : Cells w aF n (ks F)) (hp : p < n) (hn : n ≤ 4096) (hnR : n ≤ nR)
    (C41 : Hid (∀ i j : Nat, Calls Try.prog 41 #[.slice aK nK cK, .slice aL nL cL, .int .i64 i, .int .i64 j] w fun e w' => e = .returned (.bool (same K L i j)) ∧ w' = w))
    (C21 : Hid (Calls Try.prog 21 #[.slice aB nB cB, .int .i64 p] w fun e w' => e = .returned (.int .u64 (B p)) ∧ w' = w)) (hW : Ways K L F R B p v) :
    Calls Try.prog 34 #[.slice aR nR cR, .slice aK nK cK, .slice aL nL cL, .slice aB nB cB, .slice aF n cF, .int .i64 p] w fun e w' => e = .returned (.int .u64 v) ∧ w' = w := by
  have HR : Hid (Cells w aR nR (u64s R)) := hR
  have HF : Hid (Cells w aF n (ks F)) := hF
  clear hR hF
  have HSL : Hid (∀ j, same K L j p = true ∨ same K L j p = false) := fun j => by cases same K L j p <;> simp
  cases hW with
  | none hno hv =>
    subst hv
    have HNO : Hid (∀ q, q < p → same K L q p = false) := hno
    clear hno
    go_enter Try.func34, Try.ntmps34
    go_upto_block 0 with fail
    go_cut [13] (fun x wx => x = .int .i64 (-1) ∧ wx = w)
    case first =>
      go_wp2
      go_loop [13, 14] (fun x y => x = .int .i64 (-1) ∧ ∃ m : Nat, m ≤ p ∧ y = .int .i64 ((m : Int) - 1)) (fun _ y => (intOf y + 1).toNat)
      case atStart => exact ⟨rfl, p, Nat.le_refl _, rfl⟩
      case round =>
        obtain ⟨rfl, m, hm, rfl⟩ := hrel
        cases m with
        | zero =>
          go_wp2
          go_meet
          case rel => exact ⟨rfl, rfl⟩
        | succ m =>
          have e1 : ((m + 1 : Nat) : Int) - 1 = (m : Nat) := by omega
          rw [e1]
          have HSM : Hid (same K L m p = false) := HNO.out m (by omega)
          have CM : Hid (Calls Try.prog 41 #[.slice aK nK cK, .slice aL nL cL, .int .i64 m, .int .i64 p] w fun e w' => e = .returned (.bool (same K L m p)) ∧ w' = w) := C41.out m p
          go_wp2_with (go_at_call 41; refine Calls.mono CM.out ?_; rintro e w6 ⟨rfl, hw6⟩; replace hw6 := hw6.symm; subst hw6; rw [HSM.out])
          go_round
          case rel => exact ⟨rfl, m, by omega, by go_num⟩
          case measure => simp [intOf]
    case rest =>
      obtain ⟨rfl, hw⟩ := hcut
      replace hw := hw.symm
      subst hw
      go_wp2_with (go_at_call 21; refine Calls.mono C21.out ?_; rintro e w6 ⟨rfl, hw6⟩; replace hw6 := hw6.symm; subst hw6)
      go_ret
      exact ⟨rfl, rfl⟩
  | kept q hq hs hl hk hv =>
    subst hv
    have HS : Hid (same K L q p = true) := hs
    have HNO : Hid (∀ j, q < j → j < p → same K L j p = false) := hl
    clear hs hl
    go_enter Try.func34, Try.ntmps34
    go_upto_block 0 with fail
    go_cut [13] (fun x wx => x = .int .i64 q ∧ wx = w)
    case first =>
      go_wp2
      go_loop [14] (fun y => ∃ m : Nat, q < m ∧ m ≤ p ∧ y = .int .i64 ((m : Int) - 1)) (fun y => (intOf y + 1).toNat)
      case atStart => exact ⟨p, hq, Nat.le_refl _, rfl⟩
      case round =>
        obtain ⟨m, hqm, hm, rfl⟩ := hrel
        obtain ⟨m, rfl⟩ : ∃ r, m = r + 1 := ⟨m - 1, by omega⟩
        have e1 : ((m + 1 : Nat) : Int) - 1 = (m : Nat) := by omega
        rw [e1]
        have CM : Hid (Calls Try.prog 41 #[.slice aK nK cK, .slice aL nL cL, .int .i64 m, .int .i64 p] w fun e w' => e = .returned (.bool (same K L m p)) ∧ w' = w) := C41.out m p
        by_cases hmq : m = q
        · subst hmq
          have HSM : Hid (same K L m p = true) := HS.out
          go_wp2_with (go_at_call 41; refine Calls.mono CM.out ?_; rintro e w6 ⟨rfl, hw6⟩; replace hw6 := hw6.symm; subst hw6; rw [HSM.out])
          go_meet
          case rel => exact ⟨rfl, rfl⟩
        · have HSM : Hid (same K L m p = false) := HNO.out m (by omega) (by omega)
          go_wp2_with (go_at_call 41; refine Calls.mono CM.out ?_; rintro e w6 ⟨rfl, hw6⟩; replace hw6 := hw6.symm; subst hw6; rw [HSM.out])
          go_round
          case rel => exact ⟨m, by omega, by omega, by go_num⟩
          case measure => simp [intOf]
    case rest =>
      obtain ⟨rfl, hw⟩ := hcut
      replace hw := hw.symm
      subst hw
      go_upto_block 2 with fail
      go_cut [15] (fun x wx => (∃ tq : Nat, p ≤ tq ∧ x = .int .i64 tq) ∧ wx = w)
      case first =>
        obtain ⟨bF, oF, rfl, hcF⟩ := HF.out (by omega)
        have HCF : Hid (∀ i, i < n → w.cell? ⟨bF, oF + i, none⟩ = some (.int .i64 (F i : Nat))) := hcF
        have HKK : Hid (∀ t, q ≤ t → t < p → F t ≤ q) := hk
        clear hcF hk
        go_wp2
        go_loop [15] (fun y => ∃ m : Nat, q ≤ m ∧ m ≤ n ∧ y = .int .i64 m) (fun y => n - (intOf y).toNat)
        case atStart => exact ⟨q, Nat.le_refl _, by omega, rfl⟩
        case round =>
          obtain ⟨m, hm1, hm2, rfl⟩ := hrel
          by_cases hmn : m < n
          · have hck := HCF.out m hmn
            by_cases hle : F m ≤ q
            · go_wp2
              go_round
              case rel => exact ⟨m + 1, by omega, by omega, by go_num⟩
              case measure => simp [intOf]; omega
            · have hpm : p ≤ m := by
                by_cases h : m < p
                · exact absurd (HKK.out m hm1 h) hle
                · omega
              go_wp2
              go_meet
              case rel => exact ⟨⟨m, hpm, rfl⟩, rfl⟩
          · go_wp2
            go_meet
            case rel => exact ⟨⟨m, by omega, rfl⟩, rfl⟩
      case rest =>
        obtain ⟨⟨tq, htq, rfl⟩, hw⟩ := hcut
        replace hw := hw.symm
        subst hw
        obtain ⟨bR, oR, rfl, hcR⟩ := HR.out (by omega)
        have hckR : w.cell? ⟨bR, oR + q, none⟩ = some (.int .u64 (R q)) := hcR q (by omega)
        clear hcR
        go_wp2
        go_ret
        exact ⟨rfl, rfl⟩
  | gone q hq hs hl t ht1 ht2 hk hv =>
    subst hv
    have HS : Hid (same K L q p = true) := hs
    have HNO : Hid (∀ j, q < j → j < p → same K L j p = false) := hl
    clear hs hl
    go_enter Try.func34, Try.ntmps34
    go_upto_block 0 with fail
    go_cut [13] (fun x wx => x = .int .i64 q ∧ wx = w)
    case first =>
      go_wp2
      go_loop [14] (fun y => ∃ m : Nat, q < m ∧ m ≤ p ∧ y = .int .i64 ((m : Int) - 1)) (fun y => (intOf y + 1).toNat)
      case atStart => exact ⟨p, hq, Nat.le_refl _, rfl⟩
      case round =>
        obtain ⟨m, hqm, hm, rfl⟩ := hrel
        obtain ⟨m, rfl⟩ : ∃ r, m = r + 1 := ⟨m - 1, by omega⟩
        have e1 : ((m + 1 : Nat) : Int) - 1 = (m : Nat) := by omega
        rw [e1]
        have CM : Hid (Calls Try.prog 41 #[.slice aK nK cK, .slice aL nL cL, .int .i64 m, .int .i64 p] w fun e w' => e = .returned (.bool (same K L m p)) ∧ w' = w) := C41.out m p
        by_cases hmq : m = q
        · subst hmq
          have HSM : Hid (same K L m p = true) := HS.out
          go_wp2_with (go_at_call 41; refine Calls.mono CM.out ?_; rintro e w6 ⟨rfl, hw6⟩; replace hw6 := hw6.symm; subst hw6; rw [HSM.out])
          go_meet
          case rel => exact ⟨rfl, rfl⟩
        · have HSM : Hid (same K L m p = false) := HNO.out m (by omega) (by omega)
          go_wp2_with (go_at_call 41; refine Calls.mono CM.out ?_; rintro e w6 ⟨rfl, hw6⟩; replace hw6 := hw6.symm; subst hw6; rw [HSM.out])
          go_round
          case rel => exact ⟨m, by omega, by omega, by go_num⟩
          case measure => simp [intOf]
    case rest =>
      obtain ⟨rfl, hw⟩ := hcut
      replace hw := hw.symm
      subst hw
      go_upto_block 2 with fail
      go_cut [15] (fun x wx => (∃ tq : Nat, tq < p ∧ x = .int .i64 tq) ∧ wx = w)
      case first =>
        obtain ⟨bF, oF, rfl, hcF⟩ := HF.out (by omega)
        have HCF : Hid (∀ i, i < n → w.cell? ⟨bF, oF + i, none⟩ = some (.int .i64 (F i : Nat))) := hcF
        clear hcF
        go_wp2
        go_loop [15] (fun y => ∃ m : Nat, q ≤ m ∧ m ≤ t ∧ y = .int .i64 m) (fun y => n - (intOf y).toNat)
        case atStart => exact ⟨q, Nat.le_refl _, by omega, rfl⟩
        case round =>
          obtain ⟨m, hm1, hm2, rfl⟩ := hrel
          have hmn : m < n := by omega
          have hck := HCF.out m hmn
          by_cases hle : F m ≤ q
          · have hmt : m ≠ t := fun e => by subst e; omega
            go_wp2
            go_round
            case rel => exact ⟨m + 1, by omega, by omega, by go_num⟩
            case measure => simp [intOf]; omega
          · go_wp2
            go_meet
            case rel => exact ⟨⟨m, by omega, rfl⟩, rfl⟩
      case rest =>
        obtain ⟨⟨tq, htq, rfl⟩, hw⟩ := hcut
        replace hw := hw.symm
        subst hw
        go_wp2_with (go_at_call 21; refine Calls.mono C21.out ?_; rintro e w6 ⟨rfl, hw6⟩; replace hw6 := hw6.symm; subst hw6)
        go_ret
        exact ⟨rfl, rfl⟩
end Go.Proofs.Qxb6603793a.hist
