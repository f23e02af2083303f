/-
  Seat b6603793a: the guards: zzBytes (35, 14), histTooBig (15).
-/
import Derived.Test.Qxb6603793aHistJ
namespace Go.Proofs.Qxb6603793a.hist
open Go.RowKit Go.Deep

/-- A guard's answer: a bool; the world as it was; where it says yes, P. -/
def PostG (w : World) (P : Prop) (e : Ending) (w' : World) : Prop := ∃ b, e = .returned (.bool b) ∧ w' = w ∧ (b = true → P)
theorem postG_no {w : World} {P : Prop} : PostG w P (.returned (.bool false)) w := ⟨false, rfl, rfl, fun h => by cases h⟩
theorem postG_yes {w : World} {P : Prop} (h : P) : PostG w P (.returned (.bool true)) w := ⟨true, rfl, rfl, fun _ => h⟩
/-- No string is longer than 2^20. -/
def Short (n : Nat) (F : Nat → ByteArray) : Prop := ∀ r, r < n → (F r).size ≤ 1048576

set_option maxRecDepth 100000 in
set_option maxHeartbeats 2000000 in
theorem zz35 (start after : Int) (aR aK aV aL aE aO aT aB aI : Option Addr) (nR cR nK cK nV cV nL cL nE cE nO cO nT cT nB cB nI cI : Nat) (FK FV FL FE FO : Nat → ByteArray) (w : World) (hK : Cells w aK nK (strs FK)) (hV : Cells w aV nV (strs FV)) (hL : Cells w aL nL (strs FL)) (hE : Cells w aE nE (strs FE)) (hO : Cells w aO nO (strs FO)) :
    Calls Try.prog 35 #[.int .u64 start, .int .u64 after, .slice aR nR cR, .slice aK nK cK, .slice aV nV cV, .slice aL nL cL, .slice aE nE cE, .slice aO nO cO, .slice aT nT cT, .slice aB nB cB, .slice aI nI cI] w (PostG w (Short nK FK ∧ Short nV FV ∧ Short nL FL ∧ Short nE FE ∧ Short nO FO)) := by
  have HK : Hid (Cells w aK nK (strs FK)) := hK
  have HV : Hid (Cells w aV nV (strs FV)) := hV
  have HL : Hid (Cells w aL nL (strs FL)) := hL
  have HE : Hid (Cells w aE nE (strs FE)) := hE
  have HO : Hid (Cells w aO nO (strs FO)) := hO
  clear hK hV hL hE hO
  by_cases g2 : 1048576 < nR
  · go_enter Try.func35, Try.ntmps35
    go_wp2
    go_ret
    exact postG_no
  · have g2n : nR ≤ 1048576 := by omega
    have d2 : decide ((1048576 : Int) < (nR : Int)) = false := decide_eq_false (by omega)
    clear g2
    by_cases g3 : 1048576 < nK
    · go_enter Try.func35, Try.ntmps35
      go_wp2
      go_ret
      exact postG_no
    · by_cases q3 : 1048576 < nR + nK
      · go_enter Try.func35, Try.ntmps35
        go_wp2
        go_ret
        exact postG_no
      · have d3 : decide ((1048576 : Int) < (nK : Int)) = false := decide_eq_false (by omega)
        have f3 : decide ((1048576 : Int) < (nR : Int) + (nK : Int)) = false := decide_eq_false (by omega)
        go_enter Try.func35, Try.ntmps35
        go_wp2
        go_loop [23, 24] (fun z y => ∃ k s : Nat, k ≤ nK ∧ y = .int .i64 k ∧ z = .int .i64 s ∧ s ≤ 1048576 ∧ Short k FK) (fun _ y => nK - (intOf y).toNat)
        case atStart => exact ⟨0, nR + nK, Nat.zero_le _, rfl, by go_num, by omega, fun r hr => absurd hr (Nat.not_lt_zero _)⟩
        case round =>
          obtain ⟨k3, s3, hk3, rfl, rfl, hs3, hL⟩ := hrel
          have HL3 : Hid (Short k3 FK) := hL
          clear hL
          by_cases hlt3 : k3 < nK
          · obtain ⟨b, off, rfl, hc⟩ := HK.out (by omega)
            have hck : w.cell? ⟨b, off + k3, none⟩ = some (.string (FK k3)) := hc k3 hlt3
            clear hc
            by_cases t1 : 1048576 < (FK k3).size
            · go_wp2
              go_ret
              exact postG_no
            · by_cases t2 : 1048576 < s3 + (FK k3).size
              · go_wp2
                go_ret
                exact postG_no
              · go_wp2
                go_round
                case rel => exact ⟨k3 + 1, s3 + (FK k3).size, by omega, by go_num, by go_num, by omega, fun r hr => by by_cases e : r = k3; (subst e; omega); exact HL3.out r (by omega)⟩
                case measure => simp [intOf]; omega
          · have HD3 : Hid (Short nK FK) := fun r hr => HL3.out r (by omega)
            clear HL3
            by_cases g4 : 1048576 < nV
            · skip
              go_wp2
              go_ret
              exact postG_no
            · by_cases q4 : 1048576 < s3 + nV
              · skip
                go_wp2
                go_ret
                exact postG_no
              · have d4 : decide ((1048576 : Int) < (nV : Int)) = false := decide_eq_false (by omega)
                have f4 : decide ((1048576 : Int) < (s3 : Int) + (nV : Int)) = false := decide_eq_false (by omega)
                go_wp2
                go_loop [23, 25] (fun z y => ∃ k s : Nat, k ≤ nV ∧ y = .int .i64 k ∧ z = .int .i64 s ∧ s ≤ 1048576 ∧ Short k FV) (fun _ y => nV - (intOf y).toNat)
                case atStart => exact ⟨0, s3 + nV, Nat.zero_le _, rfl, by go_num, by omega, fun r hr => absurd hr (Nat.not_lt_zero _)⟩
                case round =>
                  obtain ⟨k4, s4, hk4, rfl, rfl, hs4, hL⟩ := hrel
                  have HL4 : Hid (Short k4 FV) := hL
                  clear hL
                  by_cases hlt4 : k4 < nV
                  · obtain ⟨b, off, rfl, hc⟩ := HV.out (by omega)
                    have hck : w.cell? ⟨b, off + k4, none⟩ = some (.string (FV k4)) := hc k4 hlt4
                    clear hc
                    by_cases t1 : 1048576 < (FV k4).size
                    · go_wp2
                      go_ret
                      exact postG_no
                    · by_cases t2 : 1048576 < s4 + (FV k4).size
                      · go_wp2
                        go_ret
                        exact postG_no
                      · go_wp2
                        go_round
                        case rel => exact ⟨k4 + 1, s4 + (FV k4).size, by omega, by go_num, by go_num, by omega, fun r hr => by by_cases e : r = k4; (subst e; omega); exact HL4.out r (by omega)⟩
                        case measure => simp [intOf]; omega
                  · have HD4 : Hid (Short nV FV) := fun r hr => HL4.out r (by omega)
                    clear HL4
                    by_cases g5 : 1048576 < nL
                    · skip
                      go_wp2
                      go_ret
                      exact postG_no
                    · by_cases q5 : 1048576 < s4 + nL
                      · skip
                        go_wp2
                        go_ret
                        exact postG_no
                      · have d5 : decide ((1048576 : Int) < (nL : Int)) = false := decide_eq_false (by omega)
                        have f5 : decide ((1048576 : Int) < (s4 : Int) + (nL : Int)) = false := decide_eq_false (by omega)
                        go_wp2
                        go_loop [23, 26] (fun z y => ∃ k s : Nat, k ≤ nL ∧ y = .int .i64 k ∧ z = .int .i64 s ∧ s ≤ 1048576 ∧ Short k FL) (fun _ y => nL - (intOf y).toNat)
                        case atStart => exact ⟨0, s4 + nL, Nat.zero_le _, rfl, by go_num, by omega, fun r hr => absurd hr (Nat.not_lt_zero _)⟩
                        case round =>
                          obtain ⟨k5, s5, hk5, rfl, rfl, hs5, hL⟩ := hrel
                          have HL5 : Hid (Short k5 FL) := hL
                          clear hL
                          by_cases hlt5 : k5 < nL
                          · obtain ⟨b, off, rfl, hc⟩ := HL.out (by omega)
                            have hck : w.cell? ⟨b, off + k5, none⟩ = some (.string (FL k5)) := hc k5 hlt5
                            clear hc
                            by_cases t1 : 1048576 < (FL k5).size
                            · go_wp2
                              go_ret
                              exact postG_no
                            · by_cases t2 : 1048576 < s5 + (FL k5).size
                              · go_wp2
                                go_ret
                                exact postG_no
                              · go_wp2
                                go_round
                                case rel => exact ⟨k5 + 1, s5 + (FL k5).size, by omega, by go_num, by go_num, by omega, fun r hr => by by_cases e : r = k5; (subst e; omega); exact HL5.out r (by omega)⟩
                                case measure => simp [intOf]; omega
                          · have HD5 : Hid (Short nL FL) := fun r hr => HL5.out r (by omega)
                            clear HL5
                            by_cases g6 : 1048576 < nE
                            · skip
                              go_wp2
                              go_ret
                              exact postG_no
                            · by_cases q6 : 1048576 < s5 + nE
                              · skip
                                go_wp2
                                go_ret
                                exact postG_no
                              · have d6 : decide ((1048576 : Int) < (nE : Int)) = false := decide_eq_false (by omega)
                                have f6 : decide ((1048576 : Int) < (s5 : Int) + (nE : Int)) = false := decide_eq_false (by omega)
                                go_wp2
                                go_loop [23, 27] (fun z y => ∃ k s : Nat, k ≤ nE ∧ y = .int .i64 k ∧ z = .int .i64 s ∧ s ≤ 1048576 ∧ Short k FE) (fun _ y => nE - (intOf y).toNat)
                                case atStart => exact ⟨0, s5 + nE, Nat.zero_le _, rfl, by go_num, by omega, fun r hr => absurd hr (Nat.not_lt_zero _)⟩
                                case round =>
                                  obtain ⟨k6, s6, hk6, rfl, rfl, hs6, hL⟩ := hrel
                                  have HL6 : Hid (Short k6 FE) := hL
                                  clear hL
                                  by_cases hlt6 : k6 < nE
                                  · obtain ⟨b, off, rfl, hc⟩ := HE.out (by omega)
                                    have hck : w.cell? ⟨b, off + k6, none⟩ = some (.string (FE k6)) := hc k6 hlt6
                                    clear hc
                                    by_cases t1 : 1048576 < (FE k6).size
                                    · go_wp2
                                      go_ret
                                      exact postG_no
                                    · by_cases t2 : 1048576 < s6 + (FE k6).size
                                      · go_wp2
                                        go_ret
                                        exact postG_no
                                      · go_wp2
                                        go_round
                                        case rel => exact ⟨k6 + 1, s6 + (FE k6).size, by omega, by go_num, by go_num, by omega, fun r hr => by by_cases e : r = k6; (subst e; omega); exact HL6.out r (by omega)⟩
                                        case measure => simp [intOf]; omega
                                  · have HD6 : Hid (Short nE FE) := fun r hr => HL6.out r (by omega)
                                    clear HL6
                                    by_cases g7 : 1048576 < nO
                                    · skip
                                      go_wp2
                                      go_ret
                                      exact postG_no
                                    · by_cases q7 : 1048576 < s6 + nO
                                      · skip
                                        go_wp2
                                        go_ret
                                        exact postG_no
                                      · have d7 : decide ((1048576 : Int) < (nO : Int)) = false := decide_eq_false (by omega)
                                        have f7 : decide ((1048576 : Int) < (s6 : Int) + (nO : Int)) = false := decide_eq_false (by omega)
                                        go_wp2
                                        go_loop [23, 28] (fun z y => ∃ k s : Nat, k ≤ nO ∧ y = .int .i64 k ∧ z = .int .i64 s ∧ s ≤ 1048576 ∧ Short k FO) (fun _ y => nO - (intOf y).toNat)
                                        case atStart => exact ⟨0, s6 + nO, Nat.zero_le _, rfl, by go_num, by omega, fun r hr => absurd hr (Nat.not_lt_zero _)⟩
                                        case round =>
                                          obtain ⟨k7, s7, hk7, rfl, rfl, hs7, hL⟩ := hrel
                                          have HL7 : Hid (Short k7 FO) := hL
                                          clear hL
                                          by_cases hlt7 : k7 < nO
                                          · obtain ⟨b, off, rfl, hc⟩ := HO.out (by omega)
                                            have hck : w.cell? ⟨b, off + k7, none⟩ = some (.string (FO k7)) := hc k7 hlt7
                                            clear hc
                                            by_cases t1 : 1048576 < (FO k7).size
                                            · go_wp2
                                              go_ret
                                              exact postG_no
                                            · by_cases t2 : 1048576 < s7 + (FO k7).size
                                              · go_wp2
                                                go_ret
                                                exact postG_no
                                              · go_wp2
                                                go_round
                                                case rel => exact ⟨k7 + 1, s7 + (FO k7).size, by omega, by go_num, by go_num, by omega, fun r hr => by by_cases e : r = k7; (subst e; omega); exact HL7.out r (by omega)⟩
                                                case measure => simp [intOf]; omega
                                          · have HD7 : Hid (Short nO FO) := fun r hr => HL7.out r (by omega)
                                            clear HL7
                                            by_cases g8 : 1048576 < nT
                                            · go_wp2
                                              go_ret
                                              exact postG_no
                                            · by_cases q8 : 1048576 < s7 + nT
                                              · go_wp2
                                                go_ret
                                                exact postG_no
                                              · have d8 : decide ((1048576 : Int) < (nT : Int)) = false := decide_eq_false (by omega)
                                                by_cases g9 : 1048576 < nB
                                                · go_wp2
                                                  go_ret
                                                  exact postG_no
                                                · by_cases q9 : 1048576 < s7 + nT + nB
                                                  · go_wp2
                                                    go_ret
                                                    exact postG_no
                                                  · have d9 : decide ((1048576 : Int) < (nB : Int)) = false := decide_eq_false (by omega)
                                                    by_cases g10 : 1048576 < nI
                                                    · go_wp2
                                                      go_ret
                                                      exact postG_no
                                                    · by_cases q10 : 1048576 < s7 + nT + nB + nI
                                                      · go_wp2
                                                        go_ret
                                                        exact postG_no
                                                      · have d10 : decide ((1048576 : Int) < (nI : Int)) = false := decide_eq_false (by omega)
                                                        go_wp2
                                                        go_ret
                                                        exact postG_yes ⟨HD3.out, HD4.out, HD5.out, HD6.out, HD7.out⟩
set_option maxRecDepth 100000 in
set_option maxHeartbeats 2000000 in
theorem zz14 (start after : Int) (aR aK aV aL aE aO aT aB : Option Addr) (nR cR nK cK nV cV nL cL nE cE nO cO nT cT nB cB : Nat) (FK FV FL FE FO : Nat → ByteArray) (limit : Int) (w : World) (hK : Cells w aK nK (strs FK)) (hV : Cells w aV nV (strs FV)) (hL : Cells w aL nL (strs FL)) (hE : Cells w aE nE (strs FE)) (hO : Cells w aO nO (strs FO)) :
    Calls Try.prog 14 #[.int .u64 start, .int .u64 after, .slice aR nR cR, .slice aK nK cK, .slice aV nV cV, .slice aL nL cL, .slice aE nE cE, .slice aO nO cO, .slice aT nT cT, .slice aB nB cB, .int .i64 limit] w (PostG w (Short nK FK ∧ Short nV FV ∧ Short nL FL ∧ Short nE FE ∧ Short nO FO)) := by
  have HK : Hid (Cells w aK nK (strs FK)) := hK
  have HV : Hid (Cells w aV nV (strs FV)) := hV
  have HL : Hid (Cells w aL nL (strs FL)) := hL
  have HE : Hid (Cells w aE nE (strs FE)) := hE
  have HO : Hid (Cells w aO nO (strs FO)) := hO
  clear hK hV hL hE hO
  by_cases g2 : 1048576 < nR
  · go_enter Try.func14, Try.ntmps14
    go_wp2
    go_ret
    exact postG_no
  · have g2n : nR ≤ 1048576 := by omega
    have d2 : decide ((1048576 : Int) < (nR : Int)) = false := decide_eq_false (by omega)
    clear g2
    by_cases g3 : 1048576 < nK
    · go_enter Try.func14, Try.ntmps14
      go_wp2
      go_ret
      exact postG_no
    · by_cases q3 : 1048576 < nR + nK
      · go_enter Try.func14, Try.ntmps14
        go_wp2
        go_ret
        exact postG_no
      · have d3 : decide ((1048576 : Int) < (nK : Int)) = false := decide_eq_false (by omega)
        have f3 : decide ((1048576 : Int) < (nR : Int) + (nK : Int)) = false := decide_eq_false (by omega)
        go_enter Try.func14, Try.ntmps14
        go_wp2
        go_loop [23, 24] (fun z y => ∃ k s : Nat, k ≤ nK ∧ y = .int .i64 k ∧ z = .int .i64 s ∧ s ≤ 1048576 ∧ Short k FK) (fun _ y => nK - (intOf y).toNat)
        case atStart => exact ⟨0, nR + nK, Nat.zero_le _, rfl, by go_num, by omega, fun r hr => absurd hr (Nat.not_lt_zero _)⟩
        case round =>
          obtain ⟨k3, s3, hk3, rfl, rfl, hs3, hL⟩ := hrel
          have HL3 : Hid (Short k3 FK) := hL
          clear hL
          by_cases hlt3 : k3 < nK
          · obtain ⟨b, off, rfl, hc⟩ := HK.out (by omega)
            have hck : w.cell? ⟨b, off + k3, none⟩ = some (.string (FK k3)) := hc k3 hlt3
            clear hc
            by_cases t1 : 1048576 < (FK k3).size
            · go_wp2
              go_ret
              exact postG_no
            · by_cases t2 : 1048576 < s3 + (FK k3).size
              · go_wp2
                go_ret
                exact postG_no
              · go_wp2
                go_round
                case rel => exact ⟨k3 + 1, s3 + (FK k3).size, by omega, by go_num, by go_num, by omega, fun r hr => by by_cases e : r = k3; (subst e; omega); exact HL3.out r (by omega)⟩
                case measure => simp [intOf]; omega
          · have HD3 : Hid (Short nK FK) := fun r hr => HL3.out r (by omega)
            clear HL3
            by_cases g4 : 1048576 < nV
            · skip
              go_wp2
              go_ret
              exact postG_no
            · by_cases q4 : 1048576 < s3 + nV
              · skip
                go_wp2
                go_ret
                exact postG_no
              · have d4 : decide ((1048576 : Int) < (nV : Int)) = false := decide_eq_false (by omega)
                have f4 : decide ((1048576 : Int) < (s3 : Int) + (nV : Int)) = false := decide_eq_false (by omega)
                go_wp2
                go_loop [23, 25] (fun z y => ∃ k s : Nat, k ≤ nV ∧ y = .int .i64 k ∧ z = .int .i64 s ∧ s ≤ 1048576 ∧ Short k FV) (fun _ y => nV - (intOf y).toNat)
                case atStart => exact ⟨0, s3 + nV, Nat.zero_le _, rfl, by go_num, by omega, fun r hr => absurd hr (Nat.not_lt_zero _)⟩
                case round =>
                  obtain ⟨k4, s4, hk4, rfl, rfl, hs4, hL⟩ := hrel
                  have HL4 : Hid (Short k4 FV) := hL
                  clear hL
                  by_cases hlt4 : k4 < nV
                  · obtain ⟨b, off, rfl, hc⟩ := HV.out (by omega)
                    have hck : w.cell? ⟨b, off + k4, none⟩ = some (.string (FV k4)) := hc k4 hlt4
                    clear hc
                    by_cases t1 : 1048576 < (FV k4).size
                    · go_wp2
                      go_ret
                      exact postG_no
                    · by_cases t2 : 1048576 < s4 + (FV k4).size
                      · go_wp2
                        go_ret
                        exact postG_no
                      · go_wp2
                        go_round
                        case rel => exact ⟨k4 + 1, s4 + (FV k4).size, by omega, by go_num, by go_num, by omega, fun r hr => by by_cases e : r = k4; (subst e; omega); exact HL4.out r (by omega)⟩
                        case measure => simp [intOf]; omega
                  · have HD4 : Hid (Short nV FV) := fun r hr => HL4.out r (by omega)
                    clear HL4
                    by_cases g5 : 1048576 < nL
                    · skip
                      go_wp2
                      go_ret
                      exact postG_no
                    · by_cases q5 : 1048576 < s4 + nL
                      · skip
                        go_wp2
                        go_ret
                        exact postG_no
                      · have d5 : decide ((1048576 : Int) < (nL : Int)) = false := decide_eq_false (by omega)
                        have f5 : decide ((1048576 : Int) < (s4 : Int) + (nL : Int)) = false := decide_eq_false (by omega)
                        go_wp2
                        go_loop [23, 26] (fun z y => ∃ k s : Nat, k ≤ nL ∧ y = .int .i64 k ∧ z = .int .i64 s ∧ s ≤ 1048576 ∧ Short k FL) (fun _ y => nL - (intOf y).toNat)
                        case atStart => exact ⟨0, s4 + nL, Nat.zero_le _, rfl, by go_num, by omega, fun r hr => absurd hr (Nat.not_lt_zero _)⟩
                        case round =>
                          obtain ⟨k5, s5, hk5, rfl, rfl, hs5, hL⟩ := hrel
                          have HL5 : Hid (Short k5 FL) := hL
                          clear hL
                          by_cases hlt5 : k5 < nL
                          · obtain ⟨b, off, rfl, hc⟩ := HL.out (by omega)
                            have hck : w.cell? ⟨b, off + k5, none⟩ = some (.string (FL k5)) := hc k5 hlt5
                            clear hc
                            by_cases t1 : 1048576 < (FL k5).size
                            · go_wp2
                              go_ret
                              exact postG_no
                            · by_cases t2 : 1048576 < s5 + (FL k5).size
                              · go_wp2
                                go_ret
                                exact postG_no
                              · go_wp2
                                go_round
                                case rel => exact ⟨k5 + 1, s5 + (FL k5).size, by omega, by go_num, by go_num, by omega, fun r hr => by by_cases e : r = k5; (subst e; omega); exact HL5.out r (by omega)⟩
                                case measure => simp [intOf]; omega
                          · have HD5 : Hid (Short nL FL) := fun r hr => HL5.out r (by omega)
                            clear HL5
                            by_cases g6 : 1048576 < nE
                            · skip
                              go_wp2
                              go_ret
                              exact postG_no
                            · by_cases q6 : 1048576 < s5 + nE
                              · skip
                                go_wp2
                                go_ret
                                exact postG_no
                              · have d6 : decide ((1048576 : Int) < (nE : Int)) = false := decide_eq_false (by omega)
                                have f6 : decide ((1048576 : Int) < (s5 : Int) + (nE : Int)) = false := decide_eq_false (by omega)
                                go_wp2
                                go_loop [23, 27] (fun z y => ∃ k s : Nat, k ≤ nE ∧ y = .int .i64 k ∧ z = .int .i64 s ∧ s ≤ 1048576 ∧ Short k FE) (fun _ y => nE - (intOf y).toNat)
                                case atStart => exact ⟨0, s5 + nE, Nat.zero_le _, rfl, by go_num, by omega, fun r hr => absurd hr (Nat.not_lt_zero _)⟩
                                case round =>
                                  obtain ⟨k6, s6, hk6, rfl, rfl, hs6, hL⟩ := hrel
                                  have HL6 : Hid (Short k6 FE) := hL
                                  clear hL
                                  by_cases hlt6 : k6 < nE
                                  · obtain ⟨b, off, rfl, hc⟩ := HE.out (by omega)
                                    have hck : w.cell? ⟨b, off + k6, none⟩ = some (.string (FE k6)) := hc k6 hlt6
                                    clear hc
                                    by_cases t1 : 1048576 < (FE k6).size
                                    · go_wp2
                                      go_ret
                                      exact postG_no
                                    · by_cases t2 : 1048576 < s6 + (FE k6).size
                                      · go_wp2
                                        go_ret
                                        exact postG_no
                                      · go_wp2
                                        go_round
                                        case rel => exact ⟨k6 + 1, s6 + (FE k6).size, by omega, by go_num, by go_num, by omega, fun r hr => by by_cases e : r = k6; (subst e; omega); exact HL6.out r (by omega)⟩
                                        case measure => simp [intOf]; omega
                                  · have HD6 : Hid (Short nE FE) := fun r hr => HL6.out r (by omega)
                                    clear HL6
                                    by_cases g7 : 1048576 < nO
                                    · skip
                                      go_wp2
                                      go_ret
                                      exact postG_no
                                    · by_cases q7 : 1048576 < s6 + nO
                                      · skip
                                        go_wp2
                                        go_ret
                                        exact postG_no
                                      · have d7 : decide ((1048576 : Int) < (nO : Int)) = false := decide_eq_false (by omega)
                                        have f7 : decide ((1048576 : Int) < (s6 : Int) + (nO : Int)) = false := decide_eq_false (by omega)
                                        go_wp2
                                        go_loop [23, 28] (fun z y => ∃ k s : Nat, k ≤ nO ∧ y = .int .i64 k ∧ z = .int .i64 s ∧ s ≤ 1048576 ∧ Short k FO) (fun _ y => nO - (intOf y).toNat)
                                        case atStart => exact ⟨0, s6 + nO, Nat.zero_le _, rfl, by go_num, by omega, fun r hr => absurd hr (Nat.not_lt_zero _)⟩
                                        case round =>
                                          obtain ⟨k7, s7, hk7, rfl, rfl, hs7, hL⟩ := hrel
                                          have HL7 : Hid (Short k7 FO) := hL
                                          clear hL
                                          by_cases hlt7 : k7 < nO
                                          · obtain ⟨b, off, rfl, hc⟩ := HO.out (by omega)
                                            have hck : w.cell? ⟨b, off + k7, none⟩ = some (.string (FO k7)) := hc k7 hlt7
                                            clear hc
                                            by_cases t1 : 1048576 < (FO k7).size
                                            · go_wp2
                                              go_ret
                                              exact postG_no
                                            · by_cases t2 : 1048576 < s7 + (FO k7).size
                                              · go_wp2
                                                go_ret
                                                exact postG_no
                                              · go_wp2
                                                go_round
                                                case rel => exact ⟨k7 + 1, s7 + (FO k7).size, by omega, by go_num, by go_num, by omega, fun r hr => by by_cases e : r = k7; (subst e; omega); exact HL7.out r (by omega)⟩
                                                case measure => simp [intOf]; omega
                                          · have HD7 : Hid (Short nO FO) := fun r hr => HL7.out r (by omega)
                                            clear HL7
                                            by_cases g8 : 1048576 < nT
                                            · go_wp2
                                              go_ret
                                              exact postG_no
                                            · by_cases q8 : 1048576 < s7 + nT
                                              · go_wp2
                                                go_ret
                                                exact postG_no
                                              · have d8 : decide ((1048576 : Int) < (nT : Int)) = false := decide_eq_false (by omega)
                                                by_cases g9 : 1048576 < nB
                                                · go_wp2
                                                  go_ret
                                                  exact postG_no
                                                · by_cases q9 : 1048576 < s7 + nT + nB
                                                  · go_wp2
                                                    go_ret
                                                    exact postG_no
                                                  · have d9 : decide ((1048576 : Int) < (nB : Int)) = false := decide_eq_false (by omega)
                                                    go_wp2
                                                    go_ret
                                                    exact postG_yes ⟨HD3.out, HD4.out, HD5.out, HD6.out, HD7.out⟩
end Go.Proofs.Qxb6603793a.hist
