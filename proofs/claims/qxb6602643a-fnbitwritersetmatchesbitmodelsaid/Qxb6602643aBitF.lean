/-
  Seat b6602643a: the walk of FnBitWriterSetMatchesBitModel (4).
-/
import Derived.Test.Qxb6602643aBitE
namespace Go.Proofs.Qxb6602643a.bit
open Go.RowKit Go.Deep

def PostLaw (w : World) (e : Ending) (w' : World) : Prop := e = .returned (.bool true) ∧ Below w.heap.size w w'

theorem postC_of {w w' : World} {a : Option Addr} {n : Nat} {Z : Nat → Nat} {e : Ending} (h : PostC w a n Z e w') :
    ∃ sp, e = .returned (.slice sp n n) ∧ sp.isNone = a.isNone ∧ Old w' sp w.heap.size n Z ∧ Below w.heap.size w w' := by
  obtain ⟨hb, ⟨rfl, rfl, rfl⟩ | ⟨ha, rfl, hr⟩⟩ := h
  · exact ⟨none, rfl, rfl, ⟨fun _ => rfl, fun h => absurd h (Nat.lt_irrefl _)⟩, hb⟩
  · refine ⟨_, rfl, ?_, ⟨(fun h => by cases h), fun _ => ⟨rfl, hr⟩⟩, hb⟩
    cases a with
    | none => exact absurd rfl ha
    | some x => rfl
theorem old_words {w : World} {sp : Option Addr} {g n : Nat} {Z : Nat → Nat} (h : Old w sp g n Z) : Words w sp n Z := fun hn => by
  obtain ⟨e, hr⟩ := h.2 hn
  exact ⟨g, 0, e, fun i hi => by rw [Nat.zero_add]; exact hr.cell hi⟩
theorem old_below {w w' : World} {sp : Option Addr} {g n : Nat} {Z : Nat → Nat} (h : Old w sp g n Z) (e : w'.heap[g]? = w.heap[g]?) : Old w' sp g n Z :=
  ⟨h.1, fun hn => ⟨(h.2 hn).1, (h.2 hn).2.of_block e⟩⟩
theorem old_keep {w w' : World} {sp : Option Addr} {g n : Nat} {Z : Nat → Nat} (h : Old w sp g n Z) (hb : Below w.heap.size w w') : Old w' sp g n Z :=
  ⟨h.1, fun hn => ⟨(h.2 hn).1, (h.2 hn).2.of_block (hb.block _ (h.2 hn).2.lt)⟩⟩

set_option maxRecDepth 100000 in
set_option maxHeartbeats 6000000 in
theorem law4 (a : Option Addr) (len c n at_ v : Nat) (wd : Int) (Z : Nat → Nat) (w : World) (hn : n < 18446744073709551616) (hv : v < 18446744073709551616) (hZ : ∀ i, Z i < 18446744073709551616) (hnil : a = none → len = 0 ∧ c = 0) (h : Words w a len Z) :
    Calls Try.prog 4 #[.slice a len c, .int .u64 n, .int .u64 at_, .int .u64 v, .int .i64 wd] w (PostLaw w) := by
  have H : Hid ((a = none → len = 0 ∧ c = 0) ∧ Words w a len Z) := ⟨hnil, h⟩
  have HZ : Hid (∀ i, Z i < 18446744073709551616) := hZ
  clear hnil h hZ
  go_enter Try.func4, Try.ntmps4
  go_wp2_with fail
  refine (zz9 a len c n at_ v wd w).mono ?_
  rintro e w' ⟨b, rfl, rfl, hb⟩
  cases b with
  | false =>
    go_wp2
    go_ret
    exact ⟨rfl, Below.refl _ _⟩
  | true =>
    have hlen := hb rfl
    clear hb
    by_cases hbig : 65536 < len
    · go_wp2
      go_ret
      exact ⟨rfl, Below.refl _ _⟩
    · by_cases hat : 1048576 < at_
      · go_wp2
        go_ret
        exact ⟨rfl, Below.refl _ _⟩
      · have db : decide ((65536 : Int) < (len : Int)) = false := decide_eq_false (by omega)
        have da : decide ((1048576 : Int) < (at_ : Int)) = false := decide_eq_false (by omega)
        go_wp2_with fail
        refine (args_any v wd _ (by omega) (by omega)).mono ?_
        rintro e w1 ⟨b, rfl, rfl, hb⟩
        cases b with
        | false =>
          go_wp2
          go_ret
          exact ⟨rfl, Below.refl _ _⟩
        | true =>
          obtain ⟨hw0, hw1, hvw⟩ := hb rfl
          clear hb
          obtain ⟨wd, rfl⟩ := Int.eq_ofNat_of_zero_le hw0
          have HV : Hid (v < 2 ^ wd) := by
            show v < 2 ^ wd
            rw [Int.toNat_natCast] at hvw
            have e : ((2 ^ wd : Nat) : Int) = (2 : Int) ^ wd := by rw [Int.natCast_pow]; rfl
            omega
          clear hvw hw0
          go_wp2_with fail
          refine (clone_all a len c Z _ hlen H.out.1 H.out.2).mono ?_
          intro e w2 hp
          obtain ⟨sp, rfl, hsp, ho1, hb1⟩ := postC_of hp
          clear hp
          have HS : Hid (sp.isNone = a.isNone) := hsp
          have HO1 : Hid (Old w2 sp w1.heap.size len Z) := ho1
          have HB1 : Hid (Below w1.heap.size w1 w2) := hb1
          clear hsp ho1 hb1
          go_wp2_with fail
          refine (clone_all sp len len Z _ hlen (fun h => ⟨HO1.out.1 h, HO1.out.1 h⟩) (old_words HO1.out)).mono ?_
          intro e w3 hp
          obtain ⟨so, rfl, hso, ho2, hb2⟩ := postC_of hp
          clear hp
          have HO2 : Hid (Old w3 so w2.heap.size len Z) := ho2
          have HB2 : Hid (Below w2.heap.size w2 w3) := hb2
          have HO1' : Hid (Old w3 sp w1.heap.size len Z) := old_keep HO1.out hb2
          clear ho2 hb2
          obtain ⟨bn, hn1, hn2⟩ : ∃ bn, sp.isNone = bn ∧ so.isNone = bn := ⟨_, rfl, hso⟩
          have q29 : ∀ (w : World) (a : Option Addr) (n c n' c' : Nat), (binOp .eql 29 (.slice a n c) (.slice none n' c')).run Try.prog w = .ok (.bool a.isNone) w := fun w a n c n' c' => Lib.run_eql_slice_nil w _ _ a n c n' c' Try.underlying29
          clear hso HS H
          by_cases hz : wd = 0
          · subst hz
            go_wp2_with fail
            refine (zzset_none sp len n at_ v _).mono ?_
            rintro e w4 ⟨rfl, hb4⟩
            have HB4 : Hid (Below w3.heap.size w3 w4) := hb4
            have HO3 : Hid (Old w4 so w2.heap.size len Z) := old_keep HO2.out hb4
            have HO4 : Hid (Old w4 sp w1.heap.size len Z) := old_keep HO1'.out hb4
            clear hb4
            have HBL : Hid (Below w1.heap.size w1 w4) := by
              have s1 := HB1.out.size; have s2 := HB2.out.size
              exact (HB1.out.trans (HB2.out.mono (by omega))).trans (HB4.out.mono (by omega))
            clear HB1 HB2 HB4 HO1 HO2 HO1' HV
            go_wp2_with fail
            clear q29 hn1 hn2
            go_loop [18] (fun i => ∃ k : Nat, k ≤ len ∧ i = .int .i64 k) (fun i => len - (intOf i).toNat)
            case atStart => exact ⟨0, Nat.zero_le _, rfl⟩
            case round =>
              obtain ⟨k, hk, rfl⟩ := hrel
              by_cases hlt : k < len
              · obtain ⟨rfl, hr3⟩ := HO3.out.2 (by omega)
                obtain ⟨rfl, hr4⟩ := HO4.out.2 (by omega)
                have o3 : w4.cell? ⟨w2.heap.size, k, none⟩ = some (.int .u64 (Z k : Nat)) := hr3.cell hlt
                have o4 : w4.cell? ⟨w1.heap.size, k, none⟩ = some (.int .u64 (Z k : Nat)) := hr4.cell hlt
                clear hr3 hr4
                go_wp2
                go_round
                case rel => exact ⟨k + 1, by omega, by go_num⟩
                case measure => simp [intOf]; omega
              · go_wp2
                go_ret
                exact ⟨rfl, HBL.out⟩
          · have hw1' : 1 ≤ wd := by omega
            have hw64 : wd ≤ 64 := by omega
            go_wp2_with fail
            refine (zzset_any sp w1.heap.size len n at_ v wd Z _ hw1' hw64 (by omega) hv hlen HZ.out HO1'.out).mono ?_
            rintro e w4 ⟨hk2, g', rfl, hrow⟩
            have HO3 : Hid (Old w4 so w2.heap.size len Z) := by
              refine ⟨HO2.out.1, fun hl => ⟨(HO2.out.2 hl).1, (HO2.out.2 hl).2.of_block ?_⟩⟩
              have l2 := (HO2.out.2 hl).2.lt
              have l1 := (HO1.out.2 hl).2.lt
              exact hk2.2.2.2.2 _ l2 (by omega) (by omega)
            have HBL : Hid (Below w1.heap.size w1 w4) := by
              have s1 := HB1.out.size; have s2 := HB2.out.size
              exact (HB1.out.trans (HB2.out.mono (by omega))).trans (below_kept2 hk2 (by omega) (by omega) (by omega))
            have HR : Hid (w4.rowIs g' 30 (lenW len at_ wd) (fun i => .int .u64 (resW len at_ v wd Z i : Nat))) := hrow
            clear hk2 hrow HB1 HB2 HO1 HO1' HO2
            generalize hL : lenW len at_ wd = L' at *
            have dw0 : ((wd : Int) == 0) = false := beq_eq_false_iff_ne.2 (by omega)
            have dw1 : decide (0 < wd) = true := decide_eq_true (by omega)
            unfold lenW at hL
            have hneed : ((at_ : Int) + wd - 1) / 64 + 1 = ((at_ + wd + 63) / 64 : Nat) := by omega
            by_cases hmx : n < at_ + wd <;> by_cases hg : 64 * len < at_ + wd
            all_goals
              first | rw [if_pos hmx] | rw [if_neg hmx]
              first | rw [if_pos hg] at hL | rw [if_neg hg] at hL
            · have dg : decide (len < L') = true := decide_eq_true (by omega)
              have dm : decide ((n : Int) < (at_ : Int) + (wd : Int)) = true := decide_eq_true (by omega)
              have hL17 : L' ≤ 20000 := by omega
              rw [hL] at hneed
              clear hL
              go_wp2_with fail
              clear q29 hn1 hn2
              go_loop [18] (fun i => ∃ k : Nat, k ≤ L' ∧ i = .int .i64 k) (fun i => L' - (intOf i).toNat)
              case atStart => exact ⟨0, Nat.zero_le _, rfl⟩
              case round =>
                obtain ⟨k, hk, rfl⟩ := hrel
                by_cases hlt : k < L'
                · have og : w4.cell? ⟨g', k, none⟩ = some (.int .u64 (resW len at_ v wd Z k : Nat)) := HR.out.cell hlt
                  by_cases hin : 64 * k < at_ + wd ∧ at_ < 64 * k + 64
                  · have HW : Hid (resW len at_ v wd Z k = wantW at_ v wd (padW len Z k) k 64) := law_in len at_ v wd k Z hw1' hw64 HV.out hv HZ.out hin.1 hin.2
                    obtain ⟨hi1, hi2⟩ := hin
                    by_cases hkl : k < len
                    · obtain ⟨rfl, hr3⟩ := HO3.out.2 (by omega)
                      have o3 : w4.cell? ⟨w2.heap.size, k, none⟩ = some (.int .u64 (Z k : Nat)) := hr3.cell hkl
                      have ep : padW len Z k = Z k := if_pos hkl
                      rw [ep] at HW
                      clear hr3 ep
                      go_wp2
                      go_loop [21, 22] (fun x b => ∃ t y : Nat, t ≤ 64 ∧ b = .int .u64 t ∧ x = .int .u64 y ∧ y = wantW at_ v wd (Z k) k t) (fun _ b => 64 - (intOf b).toNat)
                      case atStart => exact ⟨0, 0, by omega, rfl, rfl, rfl⟩
                      case round =>
                        obtain ⟨t, y, ht, rfl, rfl, hy⟩ := hrel
                        have HY : Hid (y = wantW at_ v wd (Z k) k t) := hy
                        clear hy
                        by_cases ht64 : t < 64
                        · by_cases hj1 : at_ ≤ 64 * k + t
                          · by_cases hj2 : 64 * k + t < at_ + wd
                            · go_wp2
                              all_goals
                                go_round
                                case rel => exact ⟨t + 1, _, by omega, by go_num, by rw [step_in HY.out hv ht64 hj1 hj2], rfl⟩
                                case measure => simp [intOf]; omega
                            · go_wp2
                              all_goals
                                go_round
                                case rel => exact ⟨t + 1, _, by omega, by go_num, by rw [step_out (old := Z k) HY.out (HZ.out k) ht64 (fun h => absurd h.2 hj2)], rfl⟩
                                case measure => simp [intOf]; omega
                          · go_wp2
                            all_goals
                              go_round
                              case rel => exact ⟨t + 1, _, by omega, by go_num, by rw [step_out (old := Z k) HY.out (HZ.out k) ht64 (fun h => absurd h.1 hj1)], rfl⟩
                              case measure => simp [intOf]; omega
                        · obtain rfl : t = 64 := by omega
                          have hyr : resW len at_ v wd Z k = y := HW.out.trans HY.out.symm
                          rw [hyr] at og
                          go_wp2
                          go_round
                          case rel => exact ⟨k + 1, by omega, by go_num⟩
                          case measure => simp [intOf]; omega
                    · have ep : padW len Z k = 0 := if_neg hkl
                      rw [ep] at HW
                      clear ep
                      go_wp2
                      all_goals
                        go_loop [21, 22] (fun x b => ∃ t y : Nat, t ≤ 64 ∧ b = .int .u64 t ∧ x = .int .u64 y ∧ y = wantW at_ v wd (0) k t) (fun _ b => 64 - (intOf b).toNat)
                        case atStart => exact ⟨0, 0, by omega, rfl, rfl, rfl⟩
                        case round =>
                          obtain ⟨t, y, ht, rfl, rfl, hy⟩ := hrel
                          have HY : Hid (y = wantW at_ v wd (0) k t) := hy
                          clear hy
                          by_cases ht64 : t < 64
                          · by_cases hj1 : at_ ≤ 64 * k + t
                            · by_cases hj2 : 64 * k + t < at_ + wd
                              · go_wp2
                                all_goals
                                  go_round
                                  case rel => exact ⟨t + 1, _, by omega, by go_num, by rw [step_in HY.out hv ht64 hj1 hj2], rfl⟩
                                  case measure => simp [intOf]; omega
                              · go_wp2
                                all_goals
                                  go_round
                                  case rel => exact ⟨t + 1, _, by omega, by go_num, by rw [step_zero HY.out ht64 (fun h => absurd h.2 hj2)], rfl⟩
                                  case measure => simp [intOf]; omega
                            · go_wp2
                              all_goals
                                go_round
                                case rel => exact ⟨t + 1, _, by omega, by go_num, by rw [step_zero HY.out ht64 (fun h => absurd h.1 hj1)], rfl⟩
                                case measure => simp [intOf]; omega
                          · obtain rfl : t = 64 := by omega
                            have hyr : resW len at_ v wd Z k = y := HW.out.trans HY.out.symm
                            rw [hyr] at og
                            go_wp2
                            go_round
                            case rel => exact ⟨k + 1, by omega, by go_num⟩
                            case measure => simp [intOf]; omega
                  · have HW : Hid (resW len at_ v wd Z k = padW len Z k) := law_out len at_ v wd k Z hw1' hin
                    rw [HW.out] at og
                    clear HW
                    by_cases hkl : k < len
                    · obtain ⟨rfl, hr3⟩ := HO3.out.2 (by omega)
                      have o3 : w4.cell? ⟨w2.heap.size, k, none⟩ = some (.int .u64 (Z k : Nat)) := hr3.cell hkl
                      have ep : padW len Z k = Z k := if_pos hkl
                      rw [ep] at og
                      clear hr3 ep
                      by_cases hi1 : 64 * k < at_ + wd
                      · have hi2 : ¬ at_ < 64 * k + 64 := fun h => hin ⟨hi1, h⟩
                        clear hin
                        go_wp2
                        go_round
                        case rel => exact ⟨k + 1, by omega, by go_num⟩
                        case measure => simp [intOf]; omega
                      · clear hin
                        go_wp2
                        all_goals
                          go_round
                          case rel => exact ⟨k + 1, by omega, by go_num⟩
                          case measure => simp [intOf]; omega
                    · have ep : padW len Z k = 0 := if_neg hkl
                      rw [ep] at og
                      clear ep
                      by_cases hi1 : 64 * k < at_ + wd
                      · have hi2 : ¬ at_ < 64 * k + 64 := fun h => hin ⟨hi1, h⟩
                        clear hin
                        go_wp2
                        go_round
                        case rel => exact ⟨k + 1, by omega, by go_num⟩
                        case measure => simp [intOf]; omega
                      · clear hin
                        go_wp2
                        all_goals
                          go_round
                          case rel => exact ⟨k + 1, by omega, by go_num⟩
                          case measure => simp [intOf]; omega
                · go_wp2
                  go_ret
                  exact ⟨rfl, HBL.out⟩
            · have dm : decide ((n : Int) < (at_ : Int) + (wd : Int)) = true := decide_eq_true (by omega)
              have dg : decide ((len : Int) < ((at_ : Int) + wd - 1) / 64 + 1) = false := decide_eq_false (by omega)
              subst hL
              clear hneed
              go_wp2_with fail
              clear q29 hn1 hn2
              go_loop [18] (fun i => ∃ k : Nat, k ≤ len ∧ i = .int .i64 k) (fun i => len - (intOf i).toNat)
              case atStart => exact ⟨0, Nat.zero_le _, rfl⟩
              case round =>
                obtain ⟨k, hk, rfl⟩ := hrel
                by_cases hlt : k < len
                · have og : w4.cell? ⟨g', k, none⟩ = some (.int .u64 (resW len at_ v wd Z k : Nat)) := HR.out.cell hlt
                  by_cases hin : 64 * k < at_ + wd ∧ at_ < 64 * k + 64
                  · have HW : Hid (resW len at_ v wd Z k = wantW at_ v wd (padW len Z k) k 64) := law_in len at_ v wd k Z hw1' hw64 HV.out hv HZ.out hin.1 hin.2
                    obtain ⟨hi1, hi2⟩ := hin
                    by_cases hkl : k < len
                    · obtain ⟨rfl, hr3⟩ := HO3.out.2 (by omega)
                      have o3 : w4.cell? ⟨w2.heap.size, k, none⟩ = some (.int .u64 (Z k : Nat)) := hr3.cell hkl
                      have ep : padW len Z k = Z k := if_pos hkl
                      rw [ep] at HW
                      clear hr3 ep
                      go_wp2
                      go_loop [21, 22] (fun x b => ∃ t y : Nat, t ≤ 64 ∧ b = .int .u64 t ∧ x = .int .u64 y ∧ y = wantW at_ v wd (Z k) k t) (fun _ b => 64 - (intOf b).toNat)
                      case atStart => exact ⟨0, 0, by omega, rfl, rfl, rfl⟩
                      case round =>
                        obtain ⟨t, y, ht, rfl, rfl, hy⟩ := hrel
                        have HY : Hid (y = wantW at_ v wd (Z k) k t) := hy
                        clear hy
                        by_cases ht64 : t < 64
                        · by_cases hj1 : at_ ≤ 64 * k + t
                          · by_cases hj2 : 64 * k + t < at_ + wd
                            · go_wp2
                              all_goals
                                go_round
                                case rel => exact ⟨t + 1, _, by omega, by go_num, by rw [step_in HY.out hv ht64 hj1 hj2], rfl⟩
                                case measure => simp [intOf]; omega
                            · go_wp2
                              all_goals
                                go_round
                                case rel => exact ⟨t + 1, _, by omega, by go_num, by rw [step_out (old := Z k) HY.out (HZ.out k) ht64 (fun h => absurd h.2 hj2)], rfl⟩
                                case measure => simp [intOf]; omega
                          · go_wp2
                            all_goals
                              go_round
                              case rel => exact ⟨t + 1, _, by omega, by go_num, by rw [step_out (old := Z k) HY.out (HZ.out k) ht64 (fun h => absurd h.1 hj1)], rfl⟩
                              case measure => simp [intOf]; omega
                        · obtain rfl : t = 64 := by omega
                          have hyr : resW len at_ v wd Z k = y := HW.out.trans HY.out.symm
                          rw [hyr] at og
                          go_wp2
                          go_round
                          case rel => exact ⟨k + 1, by omega, by go_num⟩
                          case measure => simp [intOf]; omega
                    · exact absurd hlt hkl
                  · have HW : Hid (resW len at_ v wd Z k = padW len Z k) := law_out len at_ v wd k Z hw1' hin
                    rw [HW.out] at og
                    clear HW
                    by_cases hkl : k < len
                    · obtain ⟨rfl, hr3⟩ := HO3.out.2 (by omega)
                      have o3 : w4.cell? ⟨w2.heap.size, k, none⟩ = some (.int .u64 (Z k : Nat)) := hr3.cell hkl
                      have ep : padW len Z k = Z k := if_pos hkl
                      rw [ep] at og
                      clear hr3 ep
                      by_cases hi1 : 64 * k < at_ + wd
                      · have hi2 : ¬ at_ < 64 * k + 64 := fun h => hin ⟨hi1, h⟩
                        clear hin
                        go_wp2
                        go_round
                        case rel => exact ⟨k + 1, by omega, by go_num⟩
                        case measure => simp [intOf]; omega
                      · clear hin
                        go_wp2
                        all_goals
                          go_round
                          case rel => exact ⟨k + 1, by omega, by go_num⟩
                          case measure => simp [intOf]; omega
                    · exact absurd hlt hkl
                · go_wp2
                  go_ret
                  exact ⟨rfl, HBL.out⟩
            · have dg : decide (len < L') = true := decide_eq_true (by omega)
              have dm : decide ((n : Int) < (at_ : Int) + (wd : Int)) = false := decide_eq_false (by omega)
              have hL17 : L' ≤ 20000 := by omega
              rw [hL] at hneed
              clear hL
              go_wp2_with fail
              clear q29 hn1 hn2
              go_loop [18] (fun i => ∃ k : Nat, k ≤ L' ∧ i = .int .i64 k) (fun i => L' - (intOf i).toNat)
              case atStart => exact ⟨0, Nat.zero_le _, rfl⟩
              case round =>
                obtain ⟨k, hk, rfl⟩ := hrel
                by_cases hlt : k < L'
                · have og : w4.cell? ⟨g', k, none⟩ = some (.int .u64 (resW len at_ v wd Z k : Nat)) := HR.out.cell hlt
                  by_cases hin : 64 * k < at_ + wd ∧ at_ < 64 * k + 64
                  · have HW : Hid (resW len at_ v wd Z k = wantW at_ v wd (padW len Z k) k 64) := law_in len at_ v wd k Z hw1' hw64 HV.out hv HZ.out hin.1 hin.2
                    obtain ⟨hi1, hi2⟩ := hin
                    by_cases hkl : k < len
                    · obtain ⟨rfl, hr3⟩ := HO3.out.2 (by omega)
                      have o3 : w4.cell? ⟨w2.heap.size, k, none⟩ = some (.int .u64 (Z k : Nat)) := hr3.cell hkl
                      have ep : padW len Z k = Z k := if_pos hkl
                      rw [ep] at HW
                      clear hr3 ep
                      go_wp2
                      go_loop [21, 22] (fun x b => ∃ t y : Nat, t ≤ 64 ∧ b = .int .u64 t ∧ x = .int .u64 y ∧ y = wantW at_ v wd (Z k) k t) (fun _ b => 64 - (intOf b).toNat)
                      case atStart => exact ⟨0, 0, by omega, rfl, rfl, rfl⟩
                      case round =>
                        obtain ⟨t, y, ht, rfl, rfl, hy⟩ := hrel
                        have HY : Hid (y = wantW at_ v wd (Z k) k t) := hy
                        clear hy
                        by_cases ht64 : t < 64
                        · by_cases hj1 : at_ ≤ 64 * k + t
                          · by_cases hj2 : 64 * k + t < at_ + wd
                            · go_wp2
                              all_goals
                                go_round
                                case rel => exact ⟨t + 1, _, by omega, by go_num, by rw [step_in HY.out hv ht64 hj1 hj2], rfl⟩
                                case measure => simp [intOf]; omega
                            · go_wp2
                              all_goals
                                go_round
                                case rel => exact ⟨t + 1, _, by omega, by go_num, by rw [step_out (old := Z k) HY.out (HZ.out k) ht64 (fun h => absurd h.2 hj2)], rfl⟩
                                case measure => simp [intOf]; omega
                          · go_wp2
                            all_goals
                              go_round
                              case rel => exact ⟨t + 1, _, by omega, by go_num, by rw [step_out (old := Z k) HY.out (HZ.out k) ht64 (fun h => absurd h.1 hj1)], rfl⟩
                              case measure => simp [intOf]; omega
                        · obtain rfl : t = 64 := by omega
                          have hyr : resW len at_ v wd Z k = y := HW.out.trans HY.out.symm
                          rw [hyr] at og
                          go_wp2
                          go_round
                          case rel => exact ⟨k + 1, by omega, by go_num⟩
                          case measure => simp [intOf]; omega
                    · have ep : padW len Z k = 0 := if_neg hkl
                      rw [ep] at HW
                      clear ep
                      go_wp2
                      all_goals
                        go_loop [21, 22] (fun x b => ∃ t y : Nat, t ≤ 64 ∧ b = .int .u64 t ∧ x = .int .u64 y ∧ y = wantW at_ v wd (0) k t) (fun _ b => 64 - (intOf b).toNat)
                        case atStart => exact ⟨0, 0, by omega, rfl, rfl, rfl⟩
                        case round =>
                          obtain ⟨t, y, ht, rfl, rfl, hy⟩ := hrel
                          have HY : Hid (y = wantW at_ v wd (0) k t) := hy
                          clear hy
                          by_cases ht64 : t < 64
                          · by_cases hj1 : at_ ≤ 64 * k + t
                            · by_cases hj2 : 64 * k + t < at_ + wd
                              · go_wp2
                                all_goals
                                  go_round
                                  case rel => exact ⟨t + 1, _, by omega, by go_num, by rw [step_in HY.out hv ht64 hj1 hj2], rfl⟩
                                  case measure => simp [intOf]; omega
                              · go_wp2
                                all_goals
                                  go_round
                                  case rel => exact ⟨t + 1, _, by omega, by go_num, by rw [step_zero HY.out ht64 (fun h => absurd h.2 hj2)], rfl⟩
                                  case measure => simp [intOf]; omega
                            · go_wp2
                              all_goals
                                go_round
                                case rel => exact ⟨t + 1, _, by omega, by go_num, by rw [step_zero HY.out ht64 (fun h => absurd h.1 hj1)], rfl⟩
                                case measure => simp [intOf]; omega
                          · obtain rfl : t = 64 := by omega
                            have hyr : resW len at_ v wd Z k = y := HW.out.trans HY.out.symm
                            rw [hyr] at og
                            go_wp2
                            go_round
                            case rel => exact ⟨k + 1, by omega, by go_num⟩
                            case measure => simp [intOf]; omega
                  · have HW : Hid (resW len at_ v wd Z k = padW len Z k) := law_out len at_ v wd k Z hw1' hin
                    rw [HW.out] at og
                    clear HW
                    by_cases hkl : k < len
                    · obtain ⟨rfl, hr3⟩ := HO3.out.2 (by omega)
                      have o3 : w4.cell? ⟨w2.heap.size, k, none⟩ = some (.int .u64 (Z k : Nat)) := hr3.cell hkl
                      have ep : padW len Z k = Z k := if_pos hkl
                      rw [ep] at og
                      clear hr3 ep
                      by_cases hi1 : 64 * k < at_ + wd
                      · have hi2 : ¬ at_ < 64 * k + 64 := fun h => hin ⟨hi1, h⟩
                        clear hin
                        go_wp2
                        go_round
                        case rel => exact ⟨k + 1, by omega, by go_num⟩
                        case measure => simp [intOf]; omega
                      · clear hin
                        go_wp2
                        all_goals
                          go_round
                          case rel => exact ⟨k + 1, by omega, by go_num⟩
                          case measure => simp [intOf]; omega
                    · have ep : padW len Z k = 0 := if_neg hkl
                      rw [ep] at og
                      clear ep
                      by_cases hi1 : 64 * k < at_ + wd
                      · have hi2 : ¬ at_ < 64 * k + 64 := fun h => hin ⟨hi1, h⟩
                        clear hin
                        go_wp2
                        go_round
                        case rel => exact ⟨k + 1, by omega, by go_num⟩
                        case measure => simp [intOf]; omega
                      · clear hin
                        go_wp2
                        all_goals
                          go_round
                          case rel => exact ⟨k + 1, by omega, by go_num⟩
                          case measure => simp [intOf]; omega
                · go_wp2
                  go_ret
                  exact ⟨rfl, HBL.out⟩
            · have dm : decide ((n : Int) < (at_ : Int) + (wd : Int)) = false := decide_eq_false (by omega)
              have dg : decide ((len : Int) < ((at_ : Int) + wd - 1) / 64 + 1) = false := decide_eq_false (by omega)
              subst hL
              clear hneed
              go_wp2_with fail
              clear q29 hn1 hn2
              go_loop [18] (fun i => ∃ k : Nat, k ≤ len ∧ i = .int .i64 k) (fun i => len - (intOf i).toNat)
              case atStart => exact ⟨0, Nat.zero_le _, rfl⟩
              case round =>
                obtain ⟨k, hk, rfl⟩ := hrel
                by_cases hlt : k < len
                · have og : w4.cell? ⟨g', k, none⟩ = some (.int .u64 (resW len at_ v wd Z k : Nat)) := HR.out.cell hlt
                  by_cases hin : 64 * k < at_ + wd ∧ at_ < 64 * k + 64
                  · have HW : Hid (resW len at_ v wd Z k = wantW at_ v wd (padW len Z k) k 64) := law_in len at_ v wd k Z hw1' hw64 HV.out hv HZ.out hin.1 hin.2
                    obtain ⟨hi1, hi2⟩ := hin
                    by_cases hkl : k < len
                    · obtain ⟨rfl, hr3⟩ := HO3.out.2 (by omega)
                      have o3 : w4.cell? ⟨w2.heap.size, k, none⟩ = some (.int .u64 (Z k : Nat)) := hr3.cell hkl
                      have ep : padW len Z k = Z k := if_pos hkl
                      rw [ep] at HW
                      clear hr3 ep
                      go_wp2
                      go_loop [21, 22] (fun x b => ∃ t y : Nat, t ≤ 64 ∧ b = .int .u64 t ∧ x = .int .u64 y ∧ y = wantW at_ v wd (Z k) k t) (fun _ b => 64 - (intOf b).toNat)
                      case atStart => exact ⟨0, 0, by omega, rfl, rfl, rfl⟩
                      case round =>
                        obtain ⟨t, y, ht, rfl, rfl, hy⟩ := hrel
                        have HY : Hid (y = wantW at_ v wd (Z k) k t) := hy
                        clear hy
                        by_cases ht64 : t < 64
                        · by_cases hj1 : at_ ≤ 64 * k + t
                          · by_cases hj2 : 64 * k + t < at_ + wd
                            · go_wp2
                              all_goals
                                go_round
                                case rel => exact ⟨t + 1, _, by omega, by go_num, by rw [step_in HY.out hv ht64 hj1 hj2], rfl⟩
                                case measure => simp [intOf]; omega
                            · go_wp2
                              all_goals
                                go_round
                                case rel => exact ⟨t + 1, _, by omega, by go_num, by rw [step_out (old := Z k) HY.out (HZ.out k) ht64 (fun h => absurd h.2 hj2)], rfl⟩
                                case measure => simp [intOf]; omega
                          · go_wp2
                            all_goals
                              go_round
                              case rel => exact ⟨t + 1, _, by omega, by go_num, by rw [step_out (old := Z k) HY.out (HZ.out k) ht64 (fun h => absurd h.1 hj1)], rfl⟩
                              case measure => simp [intOf]; omega
                        · obtain rfl : t = 64 := by omega
                          have hyr : resW len at_ v wd Z k = y := HW.out.trans HY.out.symm
                          rw [hyr] at og
                          go_wp2
                          go_round
                          case rel => exact ⟨k + 1, by omega, by go_num⟩
                          case measure => simp [intOf]; omega
                    · exact absurd hlt hkl
                  · have HW : Hid (resW len at_ v wd Z k = padW len Z k) := law_out len at_ v wd k Z hw1' hin
                    rw [HW.out] at og
                    clear HW
                    by_cases hkl : k < len
                    · obtain ⟨rfl, hr3⟩ := HO3.out.2 (by omega)
                      have o3 : w4.cell? ⟨w2.heap.size, k, none⟩ = some (.int .u64 (Z k : Nat)) := hr3.cell hkl
                      have ep : padW len Z k = Z k := if_pos hkl
                      rw [ep] at og
                      clear hr3 ep
                      by_cases hi1 : 64 * k < at_ + wd
                      · have hi2 : ¬ at_ < 64 * k + 64 := fun h => hin ⟨hi1, h⟩
                        clear hin
                        go_wp2
                        go_round
                        case rel => exact ⟨k + 1, by omega, by go_num⟩
                        case measure => simp [intOf]; omega
                      · clear hin
                        go_wp2
                        all_goals
                          go_round
                          case rel => exact ⟨k + 1, by omega, by go_num⟩
                          case measure => simp [intOf]; omega
                    · exact absurd hlt hkl
                · go_wp2
                  go_ret
                  exact ⟨rfl, HBL.out⟩
end Go.Proofs.Qxb6602643a.bit
