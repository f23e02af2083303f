/-
  Seat b6603793a: the walk of the law FnHistoryAddStaysWithinEachLimit (7).
-/
import Derived.Test.Qxb6603793aHistM
import Derived.Deep.CutBlock
import Derived.Deep.RegionHeld
namespace Go.Proofs.Qxb6603793a.hist
open Go.RowKit Go.Deep

set_option maxRecDepth 100000 in
set_option maxHeartbeats 4000000 in
theorem law7_any (start after : Int) (aR aK aV aL aE aO aT aB aI : Option Addr) (nR cR nK cK nV cV nL cL nE cE nO cO nT cT nB cB nI cI : Nat) (R T B I : Nat → Int) (K V L E O : Nat → ByteArray) (w : World)
    (hR : U64 w aR nR R) (hK : Str w aK nK K) (hV : Str w aV nV V) (hL : Str w aL nL L) (hE : Str w aE nE E) (hO : Str w aO nO O) (hT : U64 w aT nT T) (hB : U64 w aB nB B) (hI : I64 w aI nI I)
    (zR : aR = none → nR = 0 ∧ cR = 0) (zK : aK = none → nK = 0 ∧ cK = 0) (zV : aV = none → nV = 0 ∧ cV = 0) (zL : aL = none → nL = 0 ∧ cL = 0) (zE : aE = none → nE = 0 ∧ cE = 0) (zO : aO = none → nO = 0 ∧ cO = 0) (zT : aT = none → nT = 0 ∧ cT = 0) (zB : aB = none → nB = 0 ∧ cB = 0) (zI : aI = none → nI = 0 ∧ cI = 0) :
    Calls Try.prog 7 #[.int .u64 start, .int .u64 after, .slice aR nR cR, .slice aK nK cK, .slice aV nV cV, .slice aL nL cL, .slice aE nE cE, .slice aO nO cO, .slice aT nT cT, .slice aB nB cB, .slice aI nI cI] w (PostYes w) := by
  have HR : Hid (U64 w aR nR R) := hR
  have ZR : Hid (aR = none → nR = 0 ∧ cR = 0) := zR
  have HK : Hid (Str w aK nK K) := hK
  have ZK : Hid (aK = none → nK = 0 ∧ cK = 0) := zK
  have HV : Hid (Str w aV nV V) := hV
  have ZV : Hid (aV = none → nV = 0 ∧ cV = 0) := zV
  have HL : Hid (Str w aL nL L) := hL
  have ZL : Hid (aL = none → nL = 0 ∧ cL = 0) := zL
  have HE : Hid (Str w aE nE E) := hE
  have ZE : Hid (aE = none → nE = 0 ∧ cE = 0) := zE
  have HO : Hid (Str w aO nO O) := hO
  have ZO : Hid (aO = none → nO = 0 ∧ cO = 0) := zO
  have HT : Hid (U64 w aT nT T) := hT
  have ZT : Hid (aT = none → nT = 0 ∧ cT = 0) := zT
  have HB : Hid (U64 w aB nB B) := hB
  have ZB : Hid (aB = none → nB = 0 ∧ cB = 0) := zB
  have HI : Hid (I64 w aI nI I) := hI
  have ZI : Hid (aI = none → nI = 0 ∧ cI = 0) := zI
  clear hR zR hK zK hV zV hL zL hE zE hO zO hT zT hB zB hI zI
  go_enter Try.func7, Try.ntmps7
  go_wp2_with fail
  refine (zz35 start after aR aK aV aL aE aO aT aB aI nR cR nK cK nV cV nL cL nE cE nO cO nT cT nB cB nI cI K V L E O _ HK.out.cells HV.out.cells HL.out.cells HE.out.cells HO.out.cells).mono ?_
  rintro e w1 ⟨b, rfl, rfl, hzz⟩
  cases b with
  | false =>
    go_wp2
    go_ret
    exact ⟨rfl, Below.refl _ _⟩
  | true =>
    obtain ⟨hsK, hsV, hsL, hsE, hsO⟩ := hzz rfl
    have HSK : Hid (Short nK K) := hsK
    have HSV : Hid (Short nV V) := hsV
    have HSL : Hid (Short nL L) := hsL
    have HSE : Hid (Short nE E) := hsE
    have HSO : Hid (Short nO O) := hsO
    clear hzz hsK hsV hsL hsE hsO
    go_wp2_with fail
    refine (tooBig_any aR aK aV aL aE aO aT aB aI nR cR nK cK nV cV nL cL nE cE nO cO nT cT nB cB nI cI K V L E O _ HK.out.cells HV.out.cells HL.out.cells HE.out.cells HO.out.cells HSK.out HSV.out HSL.out HSE.out HSO.out).mono ?_
    rintro e w2 ⟨b, rfl, rfl, htb⟩
    cases b with
    | true =>
      go_wp2
      go_ret
      exact ⟨rfl, Below.refl _ _⟩
    | false =>
      obtain ⟨mR, mK, mV, mL, mE, mO, mT, mB, mI⟩ := htb rfl
      clear htb
      have HB0 : Hid (Below w2.heap.size w2 w2) := Below.refl _ _
      go_wp2_with fail
      refine (clone16 aR nR cR R _ (by omega) ZR.out HR.out.cells).mono ?_
      rintro e v0 ⟨hb, aR', cR', rfl, hc, _⟩
      have GR : Hid (U64 v0 aR' nR R) := ⟨hc, HR.out.out⟩
      have QK : Hid (Str v0 aK nK K) := str_below HK.out hb
      have QV : Hid (Str v0 aV nV V) := str_below HV.out hb
      have QL : Hid (Str v0 aL nL L) := str_below HL.out hb
      have QE : Hid (Str v0 aE nE E) := str_below HE.out hb
      have QO : Hid (Str v0 aO nO O) := str_below HO.out hb
      have QT : Hid (U64 v0 aT nT T) := u64_below HT.out hb
      have QB : Hid (U64 v0 aB nB B) := u64_below HB.out hb
      have QI : Hid (I64 v0 aI nI I) := i64_below HI.out hb
      have HB1 : Hid (Below w2.heap.size w2 v0) := HB0.out.trans (hb.mono HB0.out.size)
      clear hb hc ZR HB0 HR HK HV HL HE HO HT HB HI
      have HK0 : Hid (Str v0 aK nK K) := QK.out
      have HV0 : Hid (Str v0 aV nV V) := QV.out
      have HL0 : Hid (Str v0 aL nL L) := QL.out
      have HE0 : Hid (Str v0 aE nE E) := QE.out
      have HO0 : Hid (Str v0 aO nO O) := QO.out
      have HT0 : Hid (U64 v0 aT nT T) := QT.out
      have HB0 : Hid (U64 v0 aB nB B) := QB.out
      have HI0 : Hid (I64 v0 aI nI I) := QI.out
      clear QK QV QL QE QO QT QB QI
      have HR0 : Hid (U64 v0 aR' nR R) := GR.out
      clear GR
      go_wp2_with fail
      refine (clone17 aK nK cK K _ (by omega) ZK.out HK0.out.cells).mono ?_
      rintro e v1 ⟨hb, aK', cK', rfl, hc, _⟩
      have GK : Hid (Str v1 aK' nK K) := ⟨hc, HK0.out.out⟩
      have QR : Hid (U64 v1 aR' nR R) := u64_below HR0.out hb
      have QV : Hid (Str v1 aV nV V) := str_below HV0.out hb
      have QL : Hid (Str v1 aL nL L) := str_below HL0.out hb
      have QE : Hid (Str v1 aE nE E) := str_below HE0.out hb
      have QO : Hid (Str v1 aO nO O) := str_below HO0.out hb
      have QT : Hid (U64 v1 aT nT T) := u64_below HT0.out hb
      have QB : Hid (U64 v1 aB nB B) := u64_below HB0.out hb
      have QI : Hid (I64 v1 aI nI I) := i64_below HI0.out hb
      have HB2 : Hid (Below w2.heap.size w2 v1) := HB1.out.trans (hb.mono HB1.out.size)
      clear hb hc ZK HB1 HR0 HK0 HV0 HL0 HE0 HO0 HT0 HB0 HI0
      have HR1 : Hid (U64 v1 aR' nR R) := QR.out
      have HV1 : Hid (Str v1 aV nV V) := QV.out
      have HL1 : Hid (Str v1 aL nL L) := QL.out
      have HE1 : Hid (Str v1 aE nE E) := QE.out
      have HO1 : Hid (Str v1 aO nO O) := QO.out
      have HT1 : Hid (U64 v1 aT nT T) := QT.out
      have HB1 : Hid (U64 v1 aB nB B) := QB.out
      have HI1 : Hid (I64 v1 aI nI I) := QI.out
      clear QR QV QL QE QO QT QB QI
      have HK1 : Hid (Str v1 aK' nK K) := GK.out
      clear GK
      go_wp2_with fail
      refine (clone17 aV nV cV V _ (by omega) ZV.out HV1.out.cells).mono ?_
      rintro e v2 ⟨hb, aV', cV', rfl, hc, _⟩
      have GV : Hid (Str v2 aV' nV V) := ⟨hc, HV1.out.out⟩
      have QR : Hid (U64 v2 aR' nR R) := u64_below HR1.out hb
      have QK : Hid (Str v2 aK' nK K) := str_below HK1.out hb
      have QL : Hid (Str v2 aL nL L) := str_below HL1.out hb
      have QE : Hid (Str v2 aE nE E) := str_below HE1.out hb
      have QO : Hid (Str v2 aO nO O) := str_below HO1.out hb
      have QT : Hid (U64 v2 aT nT T) := u64_below HT1.out hb
      have QB : Hid (U64 v2 aB nB B) := u64_below HB1.out hb
      have QI : Hid (I64 v2 aI nI I) := i64_below HI1.out hb
      have HB3 : Hid (Below w2.heap.size w2 v2) := HB2.out.trans (hb.mono HB2.out.size)
      clear hb hc ZV HB2 HR1 HK1 HV1 HL1 HE1 HO1 HT1 HB1 HI1
      have HR2 : Hid (U64 v2 aR' nR R) := QR.out
      have HK2 : Hid (Str v2 aK' nK K) := QK.out
      have HL2 : Hid (Str v2 aL nL L) := QL.out
      have HE2 : Hid (Str v2 aE nE E) := QE.out
      have HO2 : Hid (Str v2 aO nO O) := QO.out
      have HT2 : Hid (U64 v2 aT nT T) := QT.out
      have HB2 : Hid (U64 v2 aB nB B) := QB.out
      have HI2 : Hid (I64 v2 aI nI I) := QI.out
      clear QR QK QL QE QO QT QB QI
      have HV2 : Hid (Str v2 aV' nV V) := GV.out
      clear GV
      go_wp2_with fail
      refine (clone17 aL nL cL L _ (by omega) ZL.out HL2.out.cells).mono ?_
      rintro e v3 ⟨hb, aL', cL', rfl, hc, _⟩
      have GL : Hid (Str v3 aL' nL L) := ⟨hc, HL2.out.out⟩
      have QR : Hid (U64 v3 aR' nR R) := u64_below HR2.out hb
      have QK : Hid (Str v3 aK' nK K) := str_below HK2.out hb
      have QV : Hid (Str v3 aV' nV V) := str_below HV2.out hb
      have QE : Hid (Str v3 aE nE E) := str_below HE2.out hb
      have QO : Hid (Str v3 aO nO O) := str_below HO2.out hb
      have QT : Hid (U64 v3 aT nT T) := u64_below HT2.out hb
      have QB : Hid (U64 v3 aB nB B) := u64_below HB2.out hb
      have QI : Hid (I64 v3 aI nI I) := i64_below HI2.out hb
      have HB4 : Hid (Below w2.heap.size w2 v3) := HB3.out.trans (hb.mono HB3.out.size)
      clear hb hc ZL HB3 HR2 HK2 HV2 HL2 HE2 HO2 HT2 HB2 HI2
      have HR3 : Hid (U64 v3 aR' nR R) := QR.out
      have HK3 : Hid (Str v3 aK' nK K) := QK.out
      have HV3 : Hid (Str v3 aV' nV V) := QV.out
      have HE3 : Hid (Str v3 aE nE E) := QE.out
      have HO3 : Hid (Str v3 aO nO O) := QO.out
      have HT3 : Hid (U64 v3 aT nT T) := QT.out
      have HB3 : Hid (U64 v3 aB nB B) := QB.out
      have HI3 : Hid (I64 v3 aI nI I) := QI.out
      clear QR QK QV QE QO QT QB QI
      have HL3 : Hid (Str v3 aL' nL L) := GL.out
      clear GL
      go_wp2_with fail
      refine (clone17 aE nE cE E _ (by omega) ZE.out HE3.out.cells).mono ?_
      rintro e v4 ⟨hb, aE', cE', rfl, hc, _⟩
      have GE : Hid (Str v4 aE' nE E) := ⟨hc, HE3.out.out⟩
      have QR : Hid (U64 v4 aR' nR R) := u64_below HR3.out hb
      have QK : Hid (Str v4 aK' nK K) := str_below HK3.out hb
      have QV : Hid (Str v4 aV' nV V) := str_below HV3.out hb
      have QL : Hid (Str v4 aL' nL L) := str_below HL3.out hb
      have QO : Hid (Str v4 aO nO O) := str_below HO3.out hb
      have QT : Hid (U64 v4 aT nT T) := u64_below HT3.out hb
      have QB : Hid (U64 v4 aB nB B) := u64_below HB3.out hb
      have QI : Hid (I64 v4 aI nI I) := i64_below HI3.out hb
      have HB5 : Hid (Below w2.heap.size w2 v4) := HB4.out.trans (hb.mono HB4.out.size)
      clear hb hc ZE HB4 HR3 HK3 HV3 HL3 HE3 HO3 HT3 HB3 HI3
      have HR4 : Hid (U64 v4 aR' nR R) := QR.out
      have HK4 : Hid (Str v4 aK' nK K) := QK.out
      have HV4 : Hid (Str v4 aV' nV V) := QV.out
      have HL4 : Hid (Str v4 aL' nL L) := QL.out
      have HO4 : Hid (Str v4 aO nO O) := QO.out
      have HT4 : Hid (U64 v4 aT nT T) := QT.out
      have HB4 : Hid (U64 v4 aB nB B) := QB.out
      have HI4 : Hid (I64 v4 aI nI I) := QI.out
      clear QR QK QV QL QO QT QB QI
      have HE4 : Hid (Str v4 aE' nE E) := GE.out
      clear GE
      go_wp2_with fail
      refine (clone17 aO nO cO O _ (by omega) ZO.out HO4.out.cells).mono ?_
      rintro e v5 ⟨hb, aO', cO', rfl, hc, _⟩
      have GO : Hid (Str v5 aO' nO O) := ⟨hc, HO4.out.out⟩
      have QR : Hid (U64 v5 aR' nR R) := u64_below HR4.out hb
      have QK : Hid (Str v5 aK' nK K) := str_below HK4.out hb
      have QV : Hid (Str v5 aV' nV V) := str_below HV4.out hb
      have QL : Hid (Str v5 aL' nL L) := str_below HL4.out hb
      have QE : Hid (Str v5 aE' nE E) := str_below HE4.out hb
      have QT : Hid (U64 v5 aT nT T) := u64_below HT4.out hb
      have QB : Hid (U64 v5 aB nB B) := u64_below HB4.out hb
      have QI : Hid (I64 v5 aI nI I) := i64_below HI4.out hb
      have HB6 : Hid (Below w2.heap.size w2 v5) := HB5.out.trans (hb.mono HB5.out.size)
      clear hb hc ZO HB5 HR4 HK4 HV4 HL4 HE4 HO4 HT4 HB4 HI4
      have HR5 : Hid (U64 v5 aR' nR R) := QR.out
      have HK5 : Hid (Str v5 aK' nK K) := QK.out
      have HV5 : Hid (Str v5 aV' nV V) := QV.out
      have HL5 : Hid (Str v5 aL' nL L) := QL.out
      have HE5 : Hid (Str v5 aE' nE E) := QE.out
      have HT5 : Hid (U64 v5 aT nT T) := QT.out
      have HB5 : Hid (U64 v5 aB nB B) := QB.out
      have HI5 : Hid (I64 v5 aI nI I) := QI.out
      clear QR QK QV QL QE QT QB QI
      have HO5 : Hid (Str v5 aO' nO O) := GO.out
      clear GO
      go_wp2_with fail
      refine (clone16 aT nT cT T _ (by omega) ZT.out HT5.out.cells).mono ?_
      rintro e v6 ⟨hb, aT', cT', rfl, hc, _⟩
      have GT : Hid (U64 v6 aT' nT T) := ⟨hc, HT5.out.out⟩
      have QR : Hid (U64 v6 aR' nR R) := u64_below HR5.out hb
      have QK : Hid (Str v6 aK' nK K) := str_below HK5.out hb
      have QV : Hid (Str v6 aV' nV V) := str_below HV5.out hb
      have QL : Hid (Str v6 aL' nL L) := str_below HL5.out hb
      have QE : Hid (Str v6 aE' nE E) := str_below HE5.out hb
      have QO : Hid (Str v6 aO' nO O) := str_below HO5.out hb
      have QB : Hid (U64 v6 aB nB B) := u64_below HB5.out hb
      have QI : Hid (I64 v6 aI nI I) := i64_below HI5.out hb
      have HB7 : Hid (Below w2.heap.size w2 v6) := HB6.out.trans (hb.mono HB6.out.size)
      clear hb hc ZT HB6 HR5 HK5 HV5 HL5 HE5 HO5 HT5 HB5 HI5
      have HR6 : Hid (U64 v6 aR' nR R) := QR.out
      have HK6 : Hid (Str v6 aK' nK K) := QK.out
      have HV6 : Hid (Str v6 aV' nV V) := QV.out
      have HL6 : Hid (Str v6 aL' nL L) := QL.out
      have HE6 : Hid (Str v6 aE' nE E) := QE.out
      have HO6 : Hid (Str v6 aO' nO O) := QO.out
      have HB6 : Hid (U64 v6 aB nB B) := QB.out
      have HI6 : Hid (I64 v6 aI nI I) := QI.out
      clear QR QK QV QL QE QO QB QI
      have HT6 : Hid (U64 v6 aT' nT T) := GT.out
      clear GT
      go_wp2_with fail
      refine (clone16 aB nB cB B _ (by omega) ZB.out HB6.out.cells).mono ?_
      rintro e v7 ⟨hb, aB', cB', rfl, hc, _⟩
      have GB : Hid (U64 v7 aB' nB B) := ⟨hc, HB6.out.out⟩
      have QR : Hid (U64 v7 aR' nR R) := u64_below HR6.out hb
      have QK : Hid (Str v7 aK' nK K) := str_below HK6.out hb
      have QV : Hid (Str v7 aV' nV V) := str_below HV6.out hb
      have QL : Hid (Str v7 aL' nL L) := str_below HL6.out hb
      have QE : Hid (Str v7 aE' nE E) := str_below HE6.out hb
      have QO : Hid (Str v7 aO' nO O) := str_below HO6.out hb
      have QT : Hid (U64 v7 aT' nT T) := u64_below HT6.out hb
      have QI : Hid (I64 v7 aI nI I) := i64_below HI6.out hb
      have HB8 : Hid (Below w2.heap.size w2 v7) := HB7.out.trans (hb.mono HB7.out.size)
      clear hb hc ZB HB7 HR6 HK6 HV6 HL6 HE6 HO6 HT6 HB6 HI6
      have HR7 : Hid (U64 v7 aR' nR R) := QR.out
      have HK7 : Hid (Str v7 aK' nK K) := QK.out
      have HV7 : Hid (Str v7 aV' nV V) := QV.out
      have HL7 : Hid (Str v7 aL' nL L) := QL.out
      have HE7 : Hid (Str v7 aE' nE E) := QE.out
      have HO7 : Hid (Str v7 aO' nO O) := QO.out
      have HT7 : Hid (U64 v7 aT' nT T) := QT.out
      have HI7 : Hid (I64 v7 aI nI I) := QI.out
      clear QR QK QV QL QE QO QT QI
      have HB7 : Hid (U64 v7 aB' nB B) := GB.out
      clear GB
      go_wp2_with fail
      refine (clone36 aI nI cI I _ (by omega) ZI.out HI7.out.cells).mono ?_
      rintro e v8 ⟨hb, aI', cI', rfl, hc, _⟩
      have GI : Hid (I64 v8 aI' nI I) := ⟨hc, HI7.out.out⟩
      have QR : Hid (U64 v8 aR' nR R) := u64_below HR7.out hb
      have QK : Hid (Str v8 aK' nK K) := str_below HK7.out hb
      have QV : Hid (Str v8 aV' nV V) := str_below HV7.out hb
      have QL : Hid (Str v8 aL' nL L) := str_below HL7.out hb
      have QE : Hid (Str v8 aE' nE E) := str_below HE7.out hb
      have QO : Hid (Str v8 aO' nO O) := str_below HO7.out hb
      have QT : Hid (U64 v8 aT' nT T) := u64_below HT7.out hb
      have QB : Hid (U64 v8 aB' nB B) := u64_below HB7.out hb
      have HB9 : Hid (Below w2.heap.size w2 v8) := HB8.out.trans (hb.mono HB8.out.size)
      clear hb hc ZI HB8 HR7 HK7 HV7 HL7 HE7 HO7 HT7 HB7 HI7
      have HR8 : Hid (U64 v8 aR' nR R) := QR.out
      have HK8 : Hid (Str v8 aK' nK K) := QK.out
      have HV8 : Hid (Str v8 aV' nV V) := QV.out
      have HL8 : Hid (Str v8 aL' nL L) := QL.out
      have HE8 : Hid (Str v8 aE' nE E) := QE.out
      have HO8 : Hid (Str v8 aO' nO O) := QO.out
      have HT8 : Hid (U64 v8 aT' nT T) := QT.out
      have HB8 : Hid (U64 v8 aB' nB B) := QB.out
      clear QR QK QV QL QE QO QT QB
      have HI8 : Hid (I64 v8 aI' nI I) := GI.out
      clear GI
      go_wp2_with fail
      refine (new_any start after _).mono ?_
      rintro e wn ⟨hbn, p, bm, rfl, hp, hbm, hH0⟩
      have hcost := cost_mk (R := R) (E := E) (T := T) (short_all HSK.out HK8.out.out) (short_all HSV.out HV8.out.out) (short_all HSL.out HL8.out.out) (short_all HSO.out HO8.out.out)
      have HCo : Hid (∀ j, cost (mk R K V L E O T j) ≤ 8388608) := hcost
      have hsiz : Hid (∀ j, (K j).size ≤ 1048576 ∧ (V j).size ≤ 1048576 ∧ (L j).size ≤ 1048576 ∧ (O j).size ≤ 1048576) := fun j => ⟨short_all HSK.out HK8.out.out j, short_all HSV.out HV8.out.out j, short_all HSL.out HL8.out.out j, short_all HSO.out HO8.out.out j⟩
      have HA0 : Hid (At v8 wn p bm start after (mk R K V L E O T) 0 0 []) := ⟨by rw [seg_nil (Nat.le_refl _)]; exact hH0, by rw [seg_nil (Nat.le_refl _)]; exact inv_nil, hbn, Nat.le_refl _⟩
      clear hcost hH0 hbn HSK HSV HSL HSE HSO
      generalize hcc : mk R K V L E O T = c at *
      have HCC : Hid (mk R K V L E O T = c) := hcc
      clear hcc
      go_upto_block 0 with fail
      go_cut [25] (fun x wx => ∃ (d : Nat) (S : List Idx), x = .int .i64 d ∧ At v8 wx p bm start after c d nR S)
      case first =>
        as_aux_lemma =>
          go_wp2
          go_loopw [25, 26] (fun x y wr => ∃ (t d : Nat) (S : List Idx), t ≤ nR ∧ y = .int .i64 t ∧ x = .int .i64 d ∧ At v8 wr p bm start after c d t S) (fun _ y _ => nR - (intOf y).toNat)
          case atStart => exact ⟨0, 0, [], Nat.zero_le _, rfl, rfl, HA0.out⟩
          case round =>
            clear HA0
            obtain ⟨t, d, S, ht, rfl, rfl, hAt⟩ := hrel
            have HAt : Hid (At v8 wr p bm start after c d t S) := hAt
            have hdt := hAt.dt
            by_cases hlt : t < nR
            · have HLI : Hid _ := i64At_any aI' nI cI' I t wr (i64_below HI8.out hAt.below).cells HI8.out.out
              clear hAt
              go_upto_region 21 with (go_at_call 37; refine Calls.mono HLI.out ?_; rintro e w3 ⟨rfl, rfl⟩)
              clear HLI
              go_cut [] (fun wx => ∃ (d' : Nat) (S2 : List Idx), Step v8 wx p bm start after (I t) c d d' t S2)
              case first =>
                as_aux_lemma =>
                  have CK : Hid (Calls Try.prog 20 #[.slice aK' nK cK', .int .i64 t] w3.drew fun e w' => e = .returned (.string (K t)) ∧ w' = w3.drew) := strAt_any aK' nK cK' K t w3.drew (str_below HK8.out HAt.out.below.drew).cells HK8.out.out
                  have CV : Hid (Calls Try.prog 20 #[.slice aV' nV cV', .int .i64 t] w3.drew fun e w' => e = .returned (.string (V t)) ∧ w' = w3.drew) := strAt_any aV' nV cV' V t w3.drew (str_below HV8.out HAt.out.below.drew).cells HV8.out.out
                  have CL : Hid (Calls Try.prog 20 #[.slice aL' nL cL', .int .i64 t] w3.drew fun e w' => e = .returned (.string (L t)) ∧ w' = w3.drew) := strAt_any aL' nL cL' L t w3.drew (str_below HL8.out HAt.out.below.drew).cells HL8.out.out
                  have CE : Hid (Calls Try.prog 20 #[.slice aE' nE cE', .int .i64 t] w3.drew fun e w' => e = .returned (.string (E t)) ∧ w' = w3.drew) := strAt_any aE' nE cE' E t w3.drew (str_below HE8.out HAt.out.below.drew).cells HE8.out.out
                  have CO : Hid (Calls Try.prog 20 #[.slice aO' nO cO', .int .i64 t] w3.drew fun e w' => e = .returned (.string (O t)) ∧ w' = w3.drew) := strAt_any aO' nO cO' O t w3.drew (str_below HO8.out HAt.out.below.drew).cells HO8.out.out
                  have CT : Hid (Calls Try.prog 21 #[.slice aT' nT cT', .int .i64 t] w3.drew fun e w' => e = .returned (.int .u64 (T t)) ∧ w' = w3.drew) := u64At_any aT' nT cT' T t w3.drew (u64_below HT8.out HAt.out.below.drew).cells HT8.out.out
                  have CB : Hid (Calls Try.prog 21 #[.slice aB' nB cB', .int .i64 t] w3.drew fun e w' => e = .returned (.int .u64 (B t)) ∧ w' = w3.drew) := u64At_any aB' nB cB' B t w3.drew (u64_below HB8.out HAt.out.below.drew).cells HB8.out.out
                  have HADD : Hid (Calls Try.prog 19 #[.pointer (some ⟨p, 0, none⟩), .int .u64 (R t), .string (K t), .string (V t), .string (L t), .string (E t), .string (O t), .int .u64 (T t), .int .u64 (B t), .int .i64 (I t)] w3.drew fun e w' => e = .returned (.tuple #[]) ∧ ∃ d' S1 S2, Step v8 w' p bm start after (I t) c d d' t S2 ∧ AddRel S t (c t) (B t) S1 ∧ DropsRel S1 ((seg c d (t + 1)).take (d' - d)) S2) := by
                    have h := add_step (at_below HAt.out ((Below.refl _ _).drew)) hp hbm (by omega) HCo.out (B t) (I t)
                    have e := HCC.out
                    subst e
                    exact h
                  obtain ⟨b, off, hx, hcr⟩ := HR8.out.cells (by omega)
                  have hck8 : v8.cell? ⟨b, off + t, none⟩ = some (.int .u64 (R t)) := hcr t hlt
                  have hck : w3.cell? ⟨b, off + t, none⟩ = some (.int .u64 (R t)) := (HAt.out.below.cell (World.block_lt_of_cell? _ _ hck8)).trans hck8
                  have HCK8 : Hid (v8.cell? ⟨b, off + t, none⟩ = some (.int .u64 (R t))) := hck8
                  clear hck8
                  subst hx
                  clear hcr
                  go_region_held (fun w' => w'.cell? ⟨b, off + t, none⟩ = some (.int .u64 (R t))) (go_keep) (first | (go_at_call_of 20 aK'; refine Calls.mono CK.out ?_; rintro e w4 ⟨rfl, rfl⟩) | (go_at_call_of 20 aV'; refine Calls.mono CV.out ?_; rintro e w4 ⟨rfl, rfl⟩) | (go_at_call_of 20 aL'; refine Calls.mono CL.out ?_; rintro e w4 ⟨rfl, rfl⟩) | (go_at_call_of 20 aE'; refine Calls.mono CE.out ?_; rintro e w4 ⟨rfl, rfl⟩) | (go_at_call_of 20 aO'; refine Calls.mono CO.out ?_; rintro e w4 ⟨rfl, rfl⟩) | (go_at_call_of 21 aT'; refine Calls.mono CT.out ?_; rintro e w4 ⟨rfl, rfl⟩) | (go_at_call_of 21 aB'; refine Calls.mono CB.out ?_; rintro e w4 ⟨rfl, rfl⟩) | (go_at_call 19; refine Calls.mono HADD.out ?_; rintro e w4 ⟨rfl, d', S1, S2, hst, _, _⟩; have HST : Hid (∃ (d' : Nat) (S2 : List Idx), Step v8 w4 p bm start after (I t) c d d' t S2) := ⟨d', S2, hst⟩; have hk4 := (hst.at_.below.cell (World.block_lt_of_cell? _ _ HCK8.out)).trans HCK8.out; clear hst))
                  all_goals go_wp2
                  all_goals go_meet
                  all_goals
                    case rel => exact HST.out
              case rest =>
                as_aux_lemma =>
                  obtain ⟨d', S2, hSt⟩ := hcut
                  have HST : Hid (Step v8 wc p bm start after (I t) c d d' t S2) := hSt
                  have hmono := hSt.mono
                  have hkeep := hSt.keep
                  clear hSt HAt
                  obtain ⟨q, hq⟩ : ∃ q : Nat, d' + q = t := ⟨t - d', by omega⟩
                  have hsum : (d' : Int) + ((q : Int) + 1) = (t : Int) + 1 := by omega
                  have C24 : Hid (Calls Try.prog 24 #[.pointer (some ⟨p, 0, none⟩)] wc fun e w' => e = .returned (.int .i64 d') ∧ w' = wc) := dropped_any HST.out.at_.hist
                  have C23 : Hid (Calls Try.prog 23 #[.pointer (some ⟨p, 0, none⟩)] wc fun e w' => e = .returned (.int .i64 ((q : Int) + 1)) ∧ w' = wc) := by
                    have h := len_any HST.out.at_.hist
                    rw [seg_len] at h
                    have e : ((t + 1 - d' : Nat) : Int) = (q : Int) + 1 := by omega
                    rw [e] at h
                    exact h
                  have C30 : Hid (Calls Try.prog 30 #[.pointer (some ⟨p, 0, none⟩), .int .i64 q] wc fun e w' => e = .returned (.tuple #[.int .u64 (R t), .string (K t), .string (V t), .string (L t), .string (E t), .string (O t), .int .u64 (T t)]) ∧ Below wc.heap.size wc w') := by
                    have hg : (seg c d' (t + 1))[q]? = some (c t) := by rw [seg_get (by omega), hq]
                    have h := change_any HST.out.at_.hist q (c t) hg (by rw [seg_len]; omega)
                    have e := HCC.out
                    subst e
                    exact h
                  have DK : Hid (∀ w', Below v8.heap.size v8 w' → Calls Try.prog 20 #[.slice aK' nK cK', .int .i64 t] w' fun e w'' => e = .returned (.string (K t)) ∧ w'' = w') := fun w' hb => strAt_any aK' nK cK' K t w' (str_below HK8.out hb).cells HK8.out.out
                  have DV : Hid (∀ w', Below v8.heap.size v8 w' → Calls Try.prog 20 #[.slice aV' nV cV', .int .i64 t] w' fun e w'' => e = .returned (.string (V t)) ∧ w'' = w') := fun w' hb => strAt_any aV' nV cV' V t w' (str_below HV8.out hb).cells HV8.out.out
                  have DL : Hid (∀ w', Below v8.heap.size v8 w' → Calls Try.prog 20 #[.slice aL' nL cL', .int .i64 t] w' fun e w'' => e = .returned (.string (L t)) ∧ w'' = w') := fun w' hb => strAt_any aL' nL cL' L t w' (str_below HL8.out hb).cells HL8.out.out
                  have DE : Hid (∀ w', Below v8.heap.size v8 w' → Calls Try.prog 20 #[.slice aE' nE cE', .int .i64 t] w' fun e w'' => e = .returned (.string (E t)) ∧ w'' = w') := fun w' hb => strAt_any aE' nE cE' E t w' (str_below HE8.out hb).cells HE8.out.out
                  have DO : Hid (∀ w', Below v8.heap.size v8 w' → Calls Try.prog 20 #[.slice aO' nO cO', .int .i64 t] w' fun e w'' => e = .returned (.string (O t)) ∧ w'' = w') := fun w' hb => strAt_any aO' nO cO' O t w' (str_below HO8.out hb).cells HO8.out.out
                  have DT : Hid (∀ w', Below v8.heap.size v8 w' → Calls Try.prog 21 #[.slice aT' nT cT', .int .i64 t] w' fun e w'' => e = .returned (.int .u64 (T t)) ∧ w'' = w') := fun w' hb => u64At_any aT' nT cT' T t w' (u64_below HT8.out hb).cells HT8.out.out
                  obtain ⟨b, off, hx, hcr⟩ := HR8.out.cells (by omega)
                  have HCR : Hid (∀ i, i < nR → v8.cell? ⟨b, off + i, none⟩ = some (.int .u64 (R i))) := hcr
                  subst hx
                  clear hcr
                  go_upto_block 2 with (first | (go_at_call 24; refine Calls.mono C24.out ?_; rintro e w6 ⟨rfl, hw6⟩; replace hw6 := hw6.symm; subst hw6) | (go_at_call 23; refine Calls.mono C23.out ?_; rintro e w6 ⟨rfl, hw6⟩; replace hw6 := hw6.symm; subst hw6) | (go_at_call 30; refine Calls.mono C30.out ?_; rintro e w5 ⟨rfl, hb5⟩; have HB5 : Hid (Below v8.heap.size v8 w5) := HST.out.at_.below.trans (hb5.mono HST.out.at_.below.size); have HST5 : Hid (At v8 w5 p bm start after c d' (t + 1) S2) := at_below HST.out.at_ hb5; have hck5 : w5.cell? ⟨b, off + t, none⟩ = some (.int .u64 (R t)) := (HB5.out.cell (World.block_lt_of_cell? _ _ (HCR.out t hlt))).trans (HCR.out t hlt); clear hb5) | (go_at_call_of 20 aK'; refine Calls.mono (DK.out _ HB5.out) ?_; rintro e w6 ⟨rfl, hw6⟩; replace hw6 := hw6.symm; subst hw6) | (go_at_call_of 20 aV'; refine Calls.mono (DV.out _ HB5.out) ?_; rintro e w6 ⟨rfl, hw6⟩; replace hw6 := hw6.symm; subst hw6) | (go_at_call_of 20 aL'; refine Calls.mono (DL.out _ HB5.out) ?_; rintro e w6 ⟨rfl, hw6⟩; replace hw6 := hw6.symm; subst hw6) | (go_at_call_of 20 aE'; refine Calls.mono (DE.out _ HB5.out) ?_; rintro e w6 ⟨rfl, hw6⟩; replace hw6 := hw6.symm; subst hw6) | (go_at_call_of 20 aO'; refine Calls.mono (DO.out _ HB5.out) ?_; rintro e w6 ⟨rfl, hw6⟩; replace hw6 := hw6.symm; subst hw6) | (go_at_call_of 21 aT'; refine Calls.mono (DT.out _ HB5.out) ?_; rintro e w6 ⟨rfl, hw6⟩; replace hw6 := hw6.symm; subst hw6))
                  clear C24 C23 C30 DK DV DL DE DO DT hck5
                  have C29 : Hid (∀ j : Nat, Calls Try.prog 29 #[.slice aK' nK cK', .slice aV' nV cV', .slice aL' nL cL', .slice aO' nO cO', .int .i64 j] w5 fun e w'' => e = .returned (.int .i64 (cost (c j) : Nat)) ∧ w'' = w5) := fun j => by
                    have h := cost_any aK' aV' aL' aO' nK nV nL nO cK' cV' cL' cO' K V L O j w5 (str_below HK8.out HB5.out).cells (str_below HV8.out HB5.out).cells (str_below HL8.out HB5.out).cells (str_below HO8.out HB5.out).cells HK8.out.out HV8.out.out HL8.out.out HO8.out.out (hsiz.out j)
                    have e := HCC.out
                    subst e
                    exact h
                  have HZB : Hid (∀ s m : Nat, m ≤ 4096 → costs (seg c s m) ≤ 34359738368) := fun s m hm => by
                    have := costs_seg_le HCo.out s m
                    have : m * 8388608 ≤ 4096 * 8388608 := Nat.mul_le_mul_right _ hm
                    omega
                  go_cut [37] (fun x wx => x = .int .i64 (costs (seg c d' (t + 1)) : Nat) ∧ wx = w5)
                  case first =>
                    as_aux_lemma =>
                      go_wp2
                      go_loop [37, 38] (fun x y => ∃ j : Nat, d' ≤ j ∧ j ≤ t + 1 ∧ y = .int .i64 j ∧ x = .int .i64 (costs (seg c d' j) : Nat)) (fun _ y => t + 1 - (intOf y).toNat)
                      case atStart => exact ⟨d', Nat.le_refl _, by omega, rfl, by rw [seg_nil (Nat.le_refl _)]; rfl⟩
                      case round =>
                        obtain ⟨j, hj1, hj2, rfl, rfl⟩ := hrel
                        by_cases hj : j ≤ t
                        · have hz1 := HZB.out d' j (by omega)
                          have hz2 := HCo.out j
                          have HZ3 : Hid (costs (seg c d' (j + 1)) = costs (seg c d' j) + cost (c j)) := costs_seg_snoc hj1
                          have C29j : Hid (Calls Try.prog 29 #[.slice aK' nK cK', .slice aV' nV cV', .slice aL' nL cL', .slice aO' nO cO', .int .i64 j] w5 fun e w'' => e = .returned (.int .i64 (cost (c j) : Nat)) ∧ w'' = w5) := C29.out j
                          generalize costs (seg c d' j) = Zj at *
                          generalize cost (c j) = Cj at *
                          go_wp2_with (go_at_call 29; refine Calls.mono C29j.out ?_; rintro e w6 ⟨rfl, hw6⟩; replace hw6 := hw6.symm; subst hw6)
                          go_round
                          case rel => exact ⟨j + 1, by omega, by omega, by go_num, by rw [HZ3.out]; go_num⟩
                          case measure => simp [intOf]; omega
                        · obtain rfl : j = t + 1 := by omega
                          go_wp2
                          go_meet
                          case rel => exact ⟨rfl, rfl⟩
                  case rest =>
                    as_aux_lemma =>
                      obtain ⟨rfl, hw⟩ := hcut
                      replace hw := hw.symm
                      subst hw
                      have C25 : Hid (Calls Try.prog 25 #[.pointer (some ⟨p, 0, none⟩)] w5 fun e w' => e = .returned (.int .i64 (costs (seg c d' (t + 1)) : Nat)) ∧ w' = w5) := hsize_any HST5.out.hist
                      have C26 : Hid (Calls Try.prog 26 #[.pointer (some ⟨p, 0, none⟩)] w5 fun e w' => e = .returned (.int .u64 (aft after c d')) ∧ w' = w5) := after_any HST5.out.hist
                      have C22 : Hid (Calls Try.prog 22 #[.pointer (some ⟨p, 0, none⟩)] w5 fun e w' => e = .returned (.int .u64 start) ∧ w' = w5) := start_any HST5.out.hist
                      have hfits := HST.out.fits
                      have HNeed : Hid (∀ r, d' = r + 1 → d < d' → I t < (cost (c r) : Nat) + (costs (seg c d' (t + 1)) : Nat)) := fun r hr hd => by
                        have h1 := HST.out.need r (by omega) (by omega)
                        rw [costs_seg_cons (by omega)] at h1
                        rw [hr]
                        omega
                      have hZb := HZB.out d' (t + 1) (by omega)
                      generalize costs (seg c d' (t + 1)) = Z at *
                      go_upto_region 37 with (go_at_call 25; refine Calls.mono C25.out ?_; rintro e w6 ⟨rfl, hw6⟩; replace hw6 := hw6.symm; subst hw6)
                      go_cut [227] (fun x wx => x = .bool false ∧ wx = w5)
                      case first =>
                        as_aux_lemma =>
                          by_cases hfit : I t < (Z : Int)
                          · have hq0 : q = 0 := by omega
                            subst hq0
                            go_wp2
                            go_meet
                            case rel => exact ⟨rfl, rfl⟩
                          · go_wp2
                            go_meet
                            case rel => exact ⟨rfl, rfl⟩
                      case rest =>
                        as_aux_lemma =>
                          obtain ⟨rfl, hw⟩ := hcut
                          replace hw := hw.symm
                          subst hw
                          go_upto_region 39 with fail
                          go_cut [243] (fun x wx => x = .bool false ∧ wx = w5)
                          case first =>
                            as_aux_lemma =>
                              by_cases hdd : d < d'
                              · obtain ⟨r, hr⟩ : ∃ r, d' = r + 1 := ⟨d' - 1, by omega⟩
                                have hne := HNeed.out r hr hdd
                                subst hr
                                have C29r : Hid (Calls Try.prog 29 #[.slice aK' nK cK', .slice aV' nV cV', .slice aL' nL cL', .slice aO' nO cO', .int .i64 r] w5 fun e w'' => e = .returned (.int .i64 (cost (c r) : Nat)) ∧ w'' = w5) := C29.out r
                                have hcr' := HCo.out r
                                generalize cost (c r) = Cr at *
                                have hnd : decide ((Z : Int) + (Cr : Int) ≤ I t) = false := decide_eq_false (by omega)
                                go_wp2_with (go_at_call 29; refine Calls.mono C29r.out ?_; rintro e w6 ⟨rfl, hw6⟩; replace hw6 := hw6.symm; subst hw6)
                                go_meet
                                case rel => exact ⟨rfl, rfl⟩
                              · go_wp2
                                go_meet
                                case rel => exact ⟨rfl, rfl⟩
                          case rest =>
                            as_aux_lemma =>
                              obtain ⟨rfl, hw⟩ := hcut
                              replace hw := hw.symm
                              subst hw
                              go_upto_if 246 with fail
                              go_cut [40] (fun x wx => x = .int .u64 (aft after c d') ∧ wx = w5)
                              case first =>
                                as_aux_lemma =>
                                  by_cases hd0 : d' = 0
                                  · subst hd0
                                    go_wp2
                                    go_meet
                                    case rel => exact ⟨rfl, rfl⟩
                                  · obtain ⟨r, hr⟩ : ∃ r, d' = r + 1 := ⟨d' - 1, by omega⟩
                                    subst hr
                                    have hck5 : w5.cell? ⟨b, off + r, none⟩ = some (.int .u64 (R r)) := (HB5.out.cell (World.block_lt_of_cell? _ _ (HCR.out r (by omega)))).trans (HCR.out r (by omega))
                                    have HRR : Hid (aft after c (r + 1) = R r) := by have e := HCC.out; subst e; rfl
                                    go_wp2
                                    go_meet
                                    case rel => exact ⟨by rw [HRR.out], rfl⟩
                              case rest =>
                                as_aux_lemma =>
                                  obtain ⟨rfl, hw⟩ := hcut
                                  replace hw := hw.symm
                                  subst hw
                                  go_wp2_with (first | (go_at_call 26; refine Calls.mono C26.out ?_; rintro e w6 ⟨rfl, hw6⟩; replace hw6 := hw6.symm; subst hw6) | (go_at_call 22; refine Calls.mono C22.out ?_; rintro e w6 ⟨rfl, hw6⟩; replace hw6 := hw6.symm; subst hw6))
                                  go_roundw
                                  case rel => exact ⟨t + 1, d', S2, by omega, by go_num, rfl, HST5.out⟩
                                  case measure => simp [intOf]; omega
            · obtain rfl : t = nR := by omega
              go_wp2
              go_meet
              case rel => exact ⟨d, S, rfl, HAt.out⟩
      case rest =>
        as_aux_lemma =>
          obtain ⟨d, S, rfl, hAt⟩ := hcut
          have HAt : Hid (At v8 wc p bm start after c d nR S) := hAt
          have HBf : Hid (Below w2.heap.size w2 wc) := HB9.out.trans (hAt.below.mono HB9.out.size)
          have hdt := hAt.dt
          clear hAt HA0
          by_cases hn0 : nR = 0
          · subst hn0
            obtain rfl : d = 0 := by omega
            have hS : S.length = 0 := by
              have h := index_len (K := K) (L := L) (by have e := HCC.out; subst e; exact mk_subj R K V L E O T) HAt.out.inv
              rw [h]
              rfl
            have hhist := HAt.out.hist
            rw [seg_nil (Nat.le_refl _)] at hhist
            have C23 : Hid (Calls Try.prog 23 #[.pointer (some ⟨p, 0, none⟩)] wc fun e w' => e = .returned (.int .i64 0) ∧ w' = wc) := len_any hhist
            have C24 : Hid (Calls Try.prog 24 #[.pointer (some ⟨p, 0, none⟩)] wc fun e w' => e = .returned (.int .i64 0) ∧ w' = wc) := dropped_any hhist
            have C25 : Hid (Calls Try.prog 25 #[.pointer (some ⟨p, 0, none⟩)] wc fun e w' => e = .returned (.int .i64 0) ∧ w' = wc) := hsize_any hhist
            have C26 : Hid (Calls Try.prog 26 #[.pointer (some ⟨p, 0, none⟩)] wc fun e w' => e = .returned (.int .u64 after) ∧ w' = wc) := after_any hhist
            have C22 : Hid (Calls Try.prog 22 #[.pointer (some ⟨p, 0, none⟩)] wc fun e w' => e = .returned (.int .u64 start) ∧ w' = wc) := start_any hhist
            have C27 : Hid (Calls Try.prog 27 #[.pointer (some ⟨p, 0, none⟩)] wc fun e w' => e = .returned (.int .i64 0) ∧ w' = wc) := by
              have h := ilen_any hhist
              rw [hS] at h
              exact h
            clear hhist hS
            go_wp2_with (first | (go_at_call 23; refine Calls.mono C23.out ?_; rintro e w6 ⟨rfl, hw6⟩; replace hw6 := hw6.symm; subst hw6) | (go_at_call 24; refine Calls.mono C24.out ?_; rintro e w6 ⟨rfl, hw6⟩; replace hw6 := hw6.symm; subst hw6) | (go_at_call 25; refine Calls.mono C25.out ?_; rintro e w6 ⟨rfl, hw6⟩; replace hw6 := hw6.symm; subst hw6) | (go_at_call 26; refine Calls.mono C26.out ?_; rintro e w6 ⟨rfl, hw6⟩; replace hw6 := hw6.symm; subst hw6) | (go_at_call 22; refine Calls.mono C22.out ?_; rintro e w6 ⟨rfl, hw6⟩; replace hw6 := hw6.symm; subst hw6) | (go_at_call 27; refine Calls.mono C27.out ?_; rintro e w6 ⟨rfl, hw6⟩; replace hw6 := hw6.symm; subst hw6))
            go_ret
            exact ⟨rfl, HBf.out⟩
          · have C31 : Hid (Calls Try.prog 31 #[.pointer (some ⟨p, 0, none⟩), .slice aK' nK cK', .slice aL' nL cL', .int .i64 d, .int .i64 nR] wc (PostYes wc)) := indexOK_any HAt.out.hist HAt.out.inv aK' aL' nK nL cK' cL' K L (str_below HK8.out HAt.out.below) (str_below HL8.out HAt.out.below) (by have e := HCC.out; subst e; exact mk_subj R K V L E O T) hdt (by omega)
            go_wp2_with (go_at_call 31; refine Calls.mono C31.out ?_; rintro e w6 ⟨rfl, hb6⟩; have HB6 : Hid (Below w2.heap.size w2 w6) := HBf.out.trans (hb6.mono HBf.out.size); clear hb6)
            go_ret
            exact ⟨rfl, HB6.out⟩
end Go.Proofs.Qxb6603793a.hist
