/-
  Seat b6603793a: histTooBig (15), ZZHistoryAdd (19).
-/
import Derived.Test.Qxb6603793aHistK
import Derived.Test.Qxb6603793aHistG
namespace Go.Proofs.Qxb6603793a.hist
open Go.RowKit Go.Deep

/-- histTooBig's answer: where it says no, no slice is longer than 4096. -/
def PostH (w : World) (P : Prop) (e : Ending) (w' : World) : Prop := ∃ b, e = .returned (.bool b) ∧ w' = w ∧ (b = false → P)
theorem postH_yes {w : World} {P : Prop} : PostH w P (.returned (.bool true)) w := ⟨true, rfl, rfl, fun h => by cases h⟩

set_option maxRecDepth 100000 in
set_option maxHeartbeats 2000000 in
theorem tooBig_any (aR aK aV aL aE aO aT aB aI : Option Addr) (nR cR nK cK nV cV nL cL nE cE nO cO nT cT nB cB nI cI : Nat) (FK FV FL FE FO : Nat → ByteArray) (w : World) (hK : Cells w aK nK (strs FK)) (hV : Cells w aV nV (strs FV)) (hL : Cells w aL nL (strs FL)) (hE : Cells w aE nE (strs FE)) (hO : Cells w aO nO (strs FO)) (sK : Short nK FK) (sV : Short nV FV) (sL : Short nL FL) (sE : Short nE FE) (sO : Short nO FO) :
    Calls Try.prog 15 #[.slice aR nR cR, .slice aK nK cK, .slice aV nV cV, .slice aL nL cL, .slice aE nE cE, .slice aO nO cO, .slice aT nT cT, .slice aB nB cB, .slice aI nI cI] w (PostH w (nR ≤ 4096 ∧ nK ≤ 4096 ∧ nV ≤ 4096 ∧ nL ≤ 4096 ∧ nE ≤ 4096 ∧ nO ≤ 4096 ∧ nT ≤ 4096 ∧ nB ≤ 4096 ∧ nI ≤ 4096)) := by
  have HK : Hid (Cells w aK nK (strs FK)) := hK
  have SK : Hid (Short nK FK) := sK
  have HV : Hid (Cells w aV nV (strs FV)) := hV
  have SV : Hid (Short nV FV) := sV
  have HL : Hid (Cells w aL nL (strs FL)) := hL
  have SL : Hid (Short nL FL) := sL
  have HE : Hid (Cells w aE nE (strs FE)) := hE
  have SE : Hid (Short nE FE) := sE
  have HO : Hid (Cells w aO nO (strs FO)) := hO
  have SO : Hid (Short nO FO) := sO
  clear hK sK hV sV hL sL hE sE hO sO
  by_cases gR : 4096 < nR
  · go_enter Try.func15, Try.ntmps15
    go_wp2
    go_ret
    exact postH_yes
  · have dR : decide ((4096 : Int) < (nR : Int)) = false := decide_eq_false (by omega)
    by_cases gK : 4096 < nK
    · go_enter Try.func15, Try.ntmps15
      go_wp2
      go_ret
      exact postH_yes
    · have dK : decide ((4096 : Int) < (nK : Int)) = false := decide_eq_false (by omega)
      by_cases gV : 4096 < nV
      · go_enter Try.func15, Try.ntmps15
        go_wp2
        go_ret
        exact postH_yes
      · have dV : decide ((4096 : Int) < (nV : Int)) = false := decide_eq_false (by omega)
        by_cases gL : 4096 < nL
        · go_enter Try.func15, Try.ntmps15
          go_wp2
          go_ret
          exact postH_yes
        · have dL : decide ((4096 : Int) < (nL : Int)) = false := decide_eq_false (by omega)
          by_cases gE : 4096 < nE
          · go_enter Try.func15, Try.ntmps15
            go_wp2
            go_ret
            exact postH_yes
          · have dE : decide ((4096 : Int) < (nE : Int)) = false := decide_eq_false (by omega)
            by_cases gO : 4096 < nO
            · go_enter Try.func15, Try.ntmps15
              go_wp2
              go_ret
              exact postH_yes
            · have dO : decide ((4096 : Int) < (nO : Int)) = false := decide_eq_false (by omega)
              by_cases gT : 4096 < nT
              · go_enter Try.func15, Try.ntmps15
                go_wp2
                go_ret
                exact postH_yes
              · have dT : decide ((4096 : Int) < (nT : Int)) = false := decide_eq_false (by omega)
                by_cases gB : 4096 < nB
                · go_enter Try.func15, Try.ntmps15
                  go_wp2
                  go_ret
                  exact postH_yes
                · have dB : decide ((4096 : Int) < (nB : Int)) = false := decide_eq_false (by omega)
                  by_cases gI : 4096 < nI
                  · go_enter Try.func15, Try.ntmps15
                    go_wp2
                    go_ret
                    exact postH_yes
                  · have dI : decide ((4096 : Int) < (nI : Int)) = false := decide_eq_false (by omega)
                    go_enter Try.func15, Try.ntmps15
                    go_wp2_with fail
                    refine (sumLens_any aK nK cK FK _ (by omega) HK.out SK.out).mono ?_
                    rintro e w1 ⟨rfl, zK, rfl, hzK, _⟩
                    go_wp2_with fail
                    refine (sumLens_any aV nV cV FV _ (by omega) HV.out SV.out).mono ?_
                    rintro e w1 ⟨rfl, zV, rfl, hzV, _⟩
                    go_wp2_with fail
                    refine (sumLens_any aL nL cL FL _ (by omega) HL.out SL.out).mono ?_
                    rintro e w1 ⟨rfl, zL, rfl, hzL, _⟩
                    go_wp2_with fail
                    refine (sumLens_any aE nE cE FE _ (by omega) HE.out SE.out).mono ?_
                    rintro e w1 ⟨rfl, zE, rfl, hzE, _⟩
                    go_wp2_with fail
                    refine (sumLens_any aO nO cO FO _ (by omega) HO.out SO.out).mono ?_
                    rintro e w1 ⟨rfl, zO, rfl, hzO, _⟩
                    go_wp2
                    go_ret
                    exact ⟨_, rfl, rfl, fun _ => ⟨by omega, by omega, by omega, by omega, by omega, by omega, by omega, by omega, by omega⟩⟩

/-- ZZHistoryAdd is add. -/
theorem zzadd_any {p bm H0 d : Nat} {start after : Int} {cs : List Chg} {S : List Idx} {w : World} (h : Hist w H0 p bm start after d cs S) (hI : Inv d cs S) (c : Chg) (bef limit : Int) (hk : c.key.size ≤ maxLen) (hl : c.lock.size ≤ maxLen) (hd : d ≤ 1048576) (hn : cs.length ≤ 1048576) (hsm : ∀ s ∈ S, s.ps.length ≤ 1048576) (hH : H0 ≤ w.heap.size) (hbm : H0 ≤ bm) (hHp : H0 ≤ p)
    (hcost : cost c ≤ 8388608) (hsz : costs cs ≤ 1099511627776) :
    Calls Try.prog 19 #[.pointer (some ⟨p, 0, none⟩), .int .u64 c.rev, .string c.key, .string c.val, .string c.lock, .string c.ev, .string c.hold, .int .u64 c.tok, .int .u64 bef, .int .i64 limit] w (PostAdd w H0 p bm start after limit d cs S c bef) := by
  have J : Hid _ := add_hist h hI c bef limit hk hl hd hn hsm hH hbm hHp hcost hsz
  clear h hI hk hl hd hn hsm hH hbm hHp hcost hsz
  go_enter Try.func19, Try.ntmps19
  go_wp2_with fail
  refine Calls.mono J.out ?_
  rintro e w' ⟨rfl, hr⟩
  go_wp2
  exact bodyPost_end (v := .tuple #[]) (by simp [results, Try.results19, go_sem]) rfl ⟨rfl, hr⟩
end Go.Proofs.Qxb6603793a.hist
