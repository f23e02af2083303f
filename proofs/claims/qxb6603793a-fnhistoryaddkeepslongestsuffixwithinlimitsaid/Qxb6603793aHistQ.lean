/-
  Seat b6603793a: the walk of the law FnHistoryAddKeepsLongestSuffixWithinLimit (6).
-/
import Derived.Test.Qxb6603793aHistS
import Derived.Test.Qxb6603793aHistM
import Derived.Deep.CutBlock
import Derived.Deep.RegionHeld
namespace Go.Proofs.Qxb6603793a.hist
open Go.RowKit Go.Deep

/-- A history of changes 0 .. t-1, added under one limit. -/
def AtB (w0 w : World) (p bm : Nat) (start after limit : Int) (c : Nat → Chg) (B : Nat → Int) (t : Nat) : Prop := ∃ S, At w0 w p bm start after c (from_ c limit t) t S ∧ BI c limit B S
theorem atB_below {w0 w w' : World} {p bm : Nat} {start after limit : Int} {c : Nat → Chg} {B : Nat → Int} {t : Nat} (h : AtB w0 w p bm start after limit c B t) (hb : Below w.heap.size w w') : AtB w0 w' p bm start after limit c B t := by
  obtain ⟨S, h1, h2⟩ := h
  exact ⟨S, at_below h1 hb, h2⟩
theorem AtB.below {w0 w : World} {p bm : Nat} {start after limit : Int} {c : Nat → Chg} {B : Nat → Int} {t : Nat} (h : AtB w0 w p bm start after limit c B t) : Below w0.heap.size w0 w := by
  obtain ⟨S, h1, h2⟩ := h
  exact h1.below
theorem add_keeps {w0 w : World} {p bm : Nat} {start after limit : Int} {c : Nat → Chg} {B : Nat → Int} {t : Nat} (h : AtB w0 w p bm start after limit c B t) (hp : w0.heap.size ≤ p) (hbm : w0.heap.size ≤ bm) (ht : t ≤ 4096) (hc : ∀ j, cost (c j) ≤ 8388608) :
    Calls Try.prog 19 #[.pointer (some ⟨p, 0, none⟩), .int .u64 (c t).rev, .string (c t).key, .string (c t).val, .string (c t).lock, .string (c t).ev, .string (c t).hold, .int .u64 (c t).tok, .int .u64 (B t), .int .i64 limit] w fun e w' => e = .returned (.tuple #[]) ∧ AtB w0 w' p bm start after limit c B (t + 1) := by
  obtain ⟨S, h1, h2⟩ := h
  refine (add_step h1 hp hbm ht hc (B t) limit).mono ?_
  rintro e w' ⟨rfl, d', S1, S2, hs, ha, hd⟩
  have e1 : d' = from_ c limit (t + 1) := step_kept hs.keep hs.need hs.fits
  subst e1
  exact ⟨rfl, S2, hs.at_, bi_step h1.inv h2 ha hd⟩

set_option maxRecDepth 100000 in
set_option maxHeartbeats 8000000 in
theorem law6_any (start after : Int) (aR aK aV aL aE aO aT aB : Option Addr) (nR cR nK cK nV cV nL cL nE cE nO cO nT cT nB cB : Nat) (R T B : Nat → Int) (K V L E O : Nat → ByteArray) (limit : Int) (w : World)
    (hR : U64 w aR nR R) (hK : Str w aK nK K) (hV : Str w aV nV V) (hL : Str w aL nL L) (hE : Str w aE nE E) (hO : Str w aO nO O) (hT : U64 w aT nT T) (hB : U64 w aB nB B)
    (zR : aR = none → nR = 0 ∧ cR = 0) (zK : aK = none → nK = 0 ∧ cK = 0) (zV : aV = none → nV = 0 ∧ cV = 0) (zL : aL = none → nL = 0 ∧ cL = 0) (zE : aE = none → nE = 0 ∧ cE = 0) (zO : aO = none → nO = 0 ∧ cO = 0) (zT : aT = none → nT = 0 ∧ cT = 0) (zB : aB = none → nB = 0 ∧ cB = 0) :
    Calls Try.prog 6 #[.int .u64 start, .int .u64 after, .slice aR nR cR, .slice aK nK cK, .slice aV nV cV, .slice aL nL cL, .slice aE nE cE, .slice aO nO cO, .slice aT nT cT, .slice aB nB cB, .int .i64 limit] w (PostYes w) := by
  have HR : Hid (U64 w aR nR R) := hR
  have ZR : Hid (aR = none → nR = 0 ∧ cR = 0) := zR
  have HK : Hid (Str w aK nK K) := hK
  have ZK : Hid (aK = none → nK = 0 ∧ cK = 0) := zK
  have HV : Hid (Str w aV nV V) := hV
  have ZV : Hid (aV = none → nV = 0 ∧ cV = 0) := zV
  have HL : Hid (Str w aL nL L) := hL
  have ZL : Hid (aL = none → nL = 0 ∧ cL = 0) := zL
  have HE : Hid (Str w aE nE E) := hE
  have ZE : Hid (aE = none → nE = 0 ∧ cE = 0) := zE
  have HO : Hid (Str w aO nO O) := hO
  have ZO : Hid (aO = none → nO = 0 ∧ cO = 0) := zO
  have HT : Hid (U64 w aT nT T) := hT
  have ZT : Hid (aT = none → nT = 0 ∧ cT = 0) := zT
  have HB : Hid (U64 w aB nB B) := hB
  have ZB : Hid (aB = none → nB = 0 ∧ cB = 0) := zB
  clear hR zR hK zK hV zV hL zL hE zE hO zO hT zT hB zB
  go_enter Try.func6, Try.ntmps6
  go_wp2_with fail
  refine (zz14 start after aR aK aV aL aE aO aT aB nR cR nK cK nV cV nL cL nE cE nO cO nT cT nB cB K V L E O limit _ HK.out.cells HV.out.cells HL.out.cells HE.out.cells HO.out.cells).mono ?_
  rintro e w1 ⟨b, rfl, rfl, hzz⟩
  cases b with
  | false =>
    go_wp2
    go_ret
    exact ⟨rfl, Below.refl _ _⟩
  | true =>
    obtain ⟨hsK, hsV, hsL, hsE, hsO⟩ := hzz rfl
    have HSK : Hid (Short nK K) := hsK
    have HSV : Hid (Short nV V) := hsV
    have HSL : Hid (Short nL L) := hsL
    have HSE : Hid (Short nE E) := hsE
    have HSO : Hid (Short nO O) := hsO
    clear hzz hsK hsV hsL hsE hsO
    go_wp2_with fail
    refine (tooBig_any aR aK aV aL aE aO aT aB none nR cR nK cK nV cV nL cL nE cE nO cO nT cT nB cB 0 0 K V L E O _ HK.out.cells HV.out.cells HL.out.cells HE.out.cells HO.out.cells HSK.out HSV.out HSL.out HSE.out HSO.out).mono ?_
    rintro e w2 ⟨b, rfl, rfl, htb⟩
    cases b with
    | true =>
      go_wp2
      go_ret
      exact ⟨rfl, Below.refl _ _⟩
    | false =>
      obtain ⟨mR, mK, mV, mL, mE, mO, mT, mB, _⟩ := htb rfl
      clear htb
      have HB0 : Hid (Below w2.heap.size w2 w2) := Below.refl _ _
      go_wp2_with fail
      refine (clone16 aR nR cR R _ (by omega) ZR.out HR.out.cells).mono ?_
      rintro e v0 ⟨hb, aR', cR', rfl, hc, _⟩
      have GR : Hid (U64 v0 aR' nR R) := ⟨hc, HR.out.out⟩
      have QK : Hid (Str v0 aK nK K) := str_below HK.out hb
      have QV : Hid (Str v0 aV nV V) := str_below HV.out hb
      have QL : Hid (Str v0 aL nL L) := str_below HL.out hb
      have QE : Hid (Str v0 aE nE E) := str_below HE.out hb
      have QO : Hid (Str v0 aO nO O) := str_below HO.out hb
      have QT : Hid (U64 v0 aT nT T) := u64_below HT.out hb
      have QB : Hid (U64 v0 aB nB B) := u64_below HB.out hb
      have HB1 : Hid (Below w2.heap.size w2 v0) := HB0.out.trans (hb.mono HB0.out.size)
      clear hb hc ZR HB0 HR HK HV HL HE HO HT HB
      have HK0 : Hid (Str v0 aK nK K) := QK.out
      have HV0 : Hid (Str v0 aV nV V) := QV.out
      have HL0 : Hid (Str v0 aL nL L) := QL.out
      have HE0 : Hid (Str v0 aE nE E) := QE.out
      have HO0 : Hid (Str v0 aO nO O) := QO.out
      have HT0 : Hid (U64 v0 aT nT T) := QT.out
      have HB0 : Hid (U64 v0 aB nB B) := QB.out
      clear QK QV QL QE QO QT QB
      have HR0 : Hid (U64 v0 aR' nR R) := GR.out
      clear GR
      go_wp2_with fail
      refine (clone17 aK nK cK K _ (by omega) ZK.out HK0.out.cells).mono ?_
      rintro e v1 ⟨hb, aK', cK', rfl, hc, _⟩
      have GK : Hid (Str v1 aK' nK K) := ⟨hc, HK0.out.out⟩
      have QR : Hid (U64 v1 aR' nR R) := u64_below HR0.out hb
      have QV : Hid (Str v1 aV nV V) := str_below HV0.out hb
      have QL : Hid (Str v1 aL nL L) := str_below HL0.out hb
      have QE : Hid (Str v1 aE nE E) := str_below HE0.out hb
      have QO : Hid (Str v1 aO nO O) := str_below HO0.out hb
      have QT : Hid (U64 v1 aT nT T) := u64_below HT0.out hb
      have QB : Hid (U64 v1 aB nB B) := u64_below HB0.out hb
      have HB2 : Hid (Below w2.heap.size w2 v1) := HB1.out.trans (hb.mono HB1.out.size)
      clear hb hc ZK HB1 HR0 HK0 HV0 HL0 HE0 HO0 HT0 HB0
      have HR1 : Hid (U64 v1 aR' nR R) := QR.out
      have HV1 : Hid (Str v1 aV nV V) := QV.out
      have HL1 : Hid (Str v1 aL nL L) := QL.out
      have HE1 : Hid (Str v1 aE nE E) := QE.out
      have HO1 : Hid (Str v1 aO nO O) := QO.out
      have HT1 : Hid (U64 v1 aT nT T) := QT.out
      have HB1 : Hid (U64 v1 aB nB B) := QB.out
      clear QR QV QL QE QO QT QB
      have HK1 : Hid (Str v1 aK' nK K) := GK.out
      clear GK
      go_wp2_with fail
      refine (clone17 aV nV cV V _ (by omega) ZV.out HV1.out.cells).mono ?_
      rintro e v2 ⟨hb, aV', cV', rfl, hc, _⟩
      have GV : Hid (Str v2 aV' nV V) := ⟨hc, HV1.out.out⟩
      have QR : Hid (U64 v2 aR' nR R) := u64_below HR1.out hb
      have QK : Hid (Str v2 aK' nK K) := str_below HK1.out hb
      have QL : Hid (Str v2 aL nL L) := str_below HL1.out hb
      have QE : Hid (Str v2 aE nE E) := str_below HE1.out hb
      have QO : Hid (Str v2 aO nO O) := str_below HO1.out hb
      have QT : Hid (U64 v2 aT nT T) := u64_below HT1.out hb
      have QB : Hid (U64 v2 aB nB B) := u64_below HB1.out hb
      have HB3 : Hid (Below w2.heap.size w2 v2) := HB2.out.trans (hb.mono HB2.out.size)
      clear hb hc ZV HB2 HR1 HK1 HV1 HL1 HE1 HO1 HT1 HB1
      have HR2 : Hid (U64 v2 aR' nR R) := QR.out
      have HK2 : Hid (Str v2 aK' nK K) := QK.out
      have HL2 : Hid (Str v2 aL nL L) := QL.out
      have HE2 : Hid (Str v2 aE nE E) := QE.out
      have HO2 : Hid (Str v2 aO nO O) := QO.out
      have HT2 : Hid (U64 v2 aT nT T) := QT.out
      have HB2 : Hid (U64 v2 aB nB B) := QB.out
      clear QR QK QL QE QO QT QB
      have HV2 : Hid (Str v2 aV' nV V) := GV.out
      clear GV
      go_wp2_with fail
      refine (clone17 aL nL cL L _ (by omega) ZL.out HL2.out.cells).mono ?_
      rintro e v3 ⟨hb, aL', cL', rfl, hc, _⟩
      have GL : Hid (Str v3 aL' nL L) := ⟨hc, HL2.out.out⟩
      have QR : Hid (U64 v3 aR' nR R) := u64_below HR2.out hb
      have QK : Hid (Str v3 aK' nK K) := str_below HK2.out hb
      have QV : Hid (Str v3 aV' nV V) := str_below HV2.out hb
      have QE : Hid (Str v3 aE nE E) := str_below HE2.out hb
      have QO : Hid (Str v3 aO nO O) := str_below HO2.out hb
      have QT : Hid (U64 v3 aT nT T) := u64_below HT2.out hb
      have QB : Hid (U64 v3 aB nB B) := u64_below HB2.out hb
      have HB4 : Hid (Below w2.heap.size w2 v3) := HB3.out.trans (hb.mono HB3.out.size)
      clear hb hc ZL HB3 HR2 HK2 HV2 HL2 HE2 HO2 HT2 HB2
      have HR3 : Hid (U64 v3 aR' nR R) := QR.out
      have HK3 : Hid (Str v3 aK' nK K) := QK.out
      have HV3 : Hid (Str v3 aV' nV V) := QV.out
      have HE3 : Hid (Str v3 aE nE E) := QE.out
      have HO3 : Hid (Str v3 aO nO O) := QO.out
      have HT3 : Hid (U64 v3 aT nT T) := QT.out
      have HB3 : Hid (U64 v3 aB nB B) := QB.out
      clear QR QK QV QE QO QT QB
      have HL3 : Hid (Str v3 aL' nL L) := GL.out
      clear GL
      go_wp2_with fail
      refine (clone17 aE nE cE E _ (by omega) ZE.out HE3.out.cells).mono ?_
      rintro e v4 ⟨hb, aE', cE', rfl, hc, _⟩
      have GE : Hid (Str v4 aE' nE E) := ⟨hc, HE3.out.out⟩
      have QR : Hid (U64 v4 aR' nR R) := u64_below HR3.out hb
      have QK : Hid (Str v4 aK' nK K) := str_below HK3.out hb
      have QV : Hid (Str v4 aV' nV V) := str_below HV3.out hb
      have QL : Hid (Str v4 aL' nL L) := str_below HL3.out hb
      have QO : Hid (Str v4 aO nO O) := str_below HO3.out hb
      have QT : Hid (U64 v4 aT nT T) := u64_below HT3.out hb
      have QB : Hid (U64 v4 aB nB B) := u64_below HB3.out hb
      have HB5 : Hid (Below w2.heap.size w2 v4) := HB4.out.trans (hb.mono HB4.out.size)
      clear hb hc ZE HB4 HR3 HK3 HV3 HL3 HE3 HO3 HT3 HB3
      have HR4 : Hid (U64 v4 aR' nR R) := QR.out
      have HK4 : Hid (Str v4 aK' nK K) := QK.out
      have HV4 : Hid (Str v4 aV' nV V) := QV.out
      have HL4 : Hid (Str v4 aL' nL L) := QL.out
      have HO4 : Hid (Str v4 aO nO O) := QO.out
      have HT4 : Hid (U64 v4 aT nT T) := QT.out
      have HB4 : Hid (U64 v4 aB nB B) := QB.out
      clear QR QK QV QL QO QT QB
      have HE4 : Hid (Str v4 aE' nE E) := GE.out
      clear GE
      go_wp2_with fail
      refine (clone17 aO nO cO O _ (by omega) ZO.out HO4.out.cells).mono ?_
      rintro e v5 ⟨hb, aO', cO', rfl, hc, _⟩
      have GO : Hid (Str v5 aO' nO O) := ⟨hc, HO4.out.out⟩
      have QR : Hid (U64 v5 aR' nR R) := u64_below HR4.out hb
      have QK : Hid (Str v5 aK' nK K) := str_below HK4.out hb
      have QV : Hid (Str v5 aV' nV V) := str_below HV4.out hb
      have QL : Hid (Str v5 aL' nL L) := str_below HL4.out hb
      have QE : Hid (Str v5 aE' nE E) := str_below HE4.out hb
      have QT : Hid (U64 v5 aT nT T) := u64_below HT4.out hb
      have QB : Hid (U64 v5 aB nB B) := u64_below HB4.out hb
      have HB6 : Hid (Below w2.heap.size w2 v5) := HB5.out.trans (hb.mono HB5.out.size)
      clear hb hc ZO HB5 HR4 HK4 HV4 HL4 HE4 HO4 HT4 HB4
      have HR5 : Hid (U64 v5 aR' nR R) := QR.out
      have HK5 : Hid (Str v5 aK' nK K) := QK.out
      have HV5 : Hid (Str v5 aV' nV V) := QV.out
      have HL5 : Hid (Str v5 aL' nL L) := QL.out
      have HE5 : Hid (Str v5 aE' nE E) := QE.out
      have HT5 : Hid (U64 v5 aT nT T) := QT.out
      have HB5 : Hid (U64 v5 aB nB B) := QB.out
      clear QR QK QV QL QE QT QB
      have HO5 : Hid (Str v5 aO' nO O) := GO.out
      clear GO
      go_wp2_with fail
      refine (clone16 aT nT cT T _ (by omega) ZT.out HT5.out.cells).mono ?_
      rintro e v6 ⟨hb, aT', cT', rfl, hc, _⟩
      have GT : Hid (U64 v6 aT' nT T) := ⟨hc, HT5.out.out⟩
      have QR : Hid (U64 v6 aR' nR R) := u64_below HR5.out hb
      have QK : Hid (Str v6 aK' nK K) := str_below HK5.out hb
      have QV : Hid (Str v6 aV' nV V) := str_below HV5.out hb
      have QL : Hid (Str v6 aL' nL L) := str_below HL5.out hb
      have QE : Hid (Str v6 aE' nE E) := str_below HE5.out hb
      have QO : Hid (Str v6 aO' nO O) := str_below HO5.out hb
      have QB : Hid (U64 v6 aB nB B) := u64_below HB5.out hb
      have HB7 : Hid (Below w2.heap.size w2 v6) := HB6.out.trans (hb.mono HB6.out.size)
      clear hb hc ZT HB6 HR5 HK5 HV5 HL5 HE5 HO5 HT5 HB5
      have HR6 : Hid (U64 v6 aR' nR R) := QR.out
      have HK6 : Hid (Str v6 aK' nK K) := QK.out
      have HV6 : Hid (Str v6 aV' nV V) := QV.out
      have HL6 : Hid (Str v6 aL' nL L) := QL.out
      have HE6 : Hid (Str v6 aE' nE E) := QE.out
      have HO6 : Hid (Str v6 aO' nO O) := QO.out
      have HB6 : Hid (U64 v6 aB nB B) := QB.out
      clear QR QK QV QL QE QO QB
      have HT6 : Hid (U64 v6 aT' nT T) := GT.out
      clear GT
      go_wp2_with fail
      refine (clone16 aB nB cB B _ (by omega) ZB.out HB6.out.cells).mono ?_
      rintro e v7 ⟨hb, aB', cB', rfl, hc, _⟩
      have GB : Hid (U64 v7 aB' nB B) := ⟨hc, HB6.out.out⟩
      have QR : Hid (U64 v7 aR' nR R) := u64_below HR6.out hb
      have QK : Hid (Str v7 aK' nK K) := str_below HK6.out hb
      have QV : Hid (Str v7 aV' nV V) := str_below HV6.out hb
      have QL : Hid (Str v7 aL' nL L) := str_below HL6.out hb
      have QE : Hid (Str v7 aE' nE E) := str_below HE6.out hb
      have QO : Hid (Str v7 aO' nO O) := str_below HO6.out hb
      have QT : Hid (U64 v7 aT' nT T) := u64_below HT6.out hb
      have HB8 : Hid (Below w2.heap.size w2 v7) := HB7.out.trans (hb.mono HB7.out.size)
      clear hb hc ZB HB7 HR6 HK6 HV6 HL6 HE6 HO6 HT6 HB6
      have HR7 : Hid (U64 v7 aR' nR R) := QR.out
      have HK7 : Hid (Str v7 aK' nK K) := QK.out
      have HV7 : Hid (Str v7 aV' nV V) := QV.out
      have HL7 : Hid (Str v7 aL' nL L) := QL.out
      have HE7 : Hid (Str v7 aE' nE E) := QE.out
      have HO7 : Hid (Str v7 aO' nO O) := QO.out
      have HT7 : Hid (U64 v7 aT' nT T) := QT.out
      clear QR QK QV QL QE QO QT
      have HB7 : Hid (U64 v7 aB' nB B) := GB.out
      clear GB
      go_wp2_with fail
      refine (new_any start after _).mono ?_
      rintro e wn ⟨hbn, p, bm, rfl, hp, hbm, hH0⟩
      have hcost := cost_mk (R := R) (E := E) (T := T) (short_all HSK.out HK7.out.out) (short_all HSV.out HV7.out.out) (short_all HSL.out HL7.out.out) (short_all HSO.out HO7.out.out)
      have HCo : Hid (∀ j, cost (mk R K V L E O T j) ≤ 8388608) := hcost
      have hsiz : Hid (∀ j, (K j).size ≤ 1048576 ∧ (V j).size ≤ 1048576 ∧ (L j).size ≤ 1048576 ∧ (O j).size ≤ 1048576) := fun j => ⟨short_all HSK.out HK7.out.out j, short_all HSV.out HV7.out.out j, short_all HSL.out HL7.out.out j, short_all HSO.out HO7.out.out j⟩
      have HA0 : Hid (AtB v7 wn p bm start after limit (mk R K V L E O T) B 0) := ⟨[], ⟨by rw [seg_nil (Nat.zero_le _)]; exact hH0, by rw [seg_nil (Nat.zero_le _)]; exact inv_nil, hbn, Nat.le_refl _⟩, bi_nil⟩
      clear hcost hH0 hbn HSK HSV HSL HSE HSO
      have HSub : Hid (Subj (mk R K V L E O T) K L) := mk_subj R K V L E O T
      have HRev : Hid (∀ j, (mk R K V L E O T j).rev = R j) := fun _ => rfl
      have D29 : Hid (∀ (j : Nat) (w' : World), Below v7.heap.size v7 w' → Calls Try.prog 29 #[.slice aK' nK cK', .slice aV' nV cV', .slice aL' nL cL', .slice aO' nO cO', .int .i64 j] w' fun e w'' => e = .returned (.int .i64 (cost (mk R K V L E O T j) : Nat)) ∧ w'' = w') := fun j w' hb => cost_any aK' aV' aL' aO' nK nV nL nO cK' cV' cL' cO' K V L O j w' (str_below HK7.out hb).cells (str_below HV7.out hb).cells (str_below HL7.out hb).cells (str_below HO7.out hb).cells HK7.out.out HV7.out.out HL7.out.out HO7.out.out (hsiz.out j)
      have HADD : Hid (∀ (t : Nat) (w' : World), t < nR → AtB v7 w' p bm start after limit (mk R K V L E O T) B t → Calls Try.prog 19 #[.pointer (some ⟨p, 0, none⟩), .int .u64 (R t), .string (K t), .string (V t), .string (L t), .string (E t), .string (O t), .int .u64 (T t), .int .u64 (B t), .int .i64 limit] w' fun e w'' => e = .returned (.tuple #[]) ∧ AtB v7 w'' p bm start after limit (mk R K V L E O T) B (t + 1)) := fun t w' ht h => add_keeps h hp hbm (by omega) HCo.out
      have DCh : Hid (∀ j, mk R K V L E O T j = ⟨R j, K j, V j, L j, E j, O j, T j⟩) := fun _ => rfl
      generalize mk R K V L E O T = c at *
      clear hsiz hp hbm
      have DK : Hid (∀ (j : Nat) (w' : World), Below v7.heap.size v7 w' → Calls Try.prog 20 #[.slice aK' nK cK', .int .i64 j] w' fun e w'' => e = .returned (.string (K j)) ∧ w'' = w') := fun j w' hb => strAt_any aK' nK cK' K j w' (str_below HK7.out hb).cells HK7.out.out
      have DV : Hid (∀ (j : Nat) (w' : World), Below v7.heap.size v7 w' → Calls Try.prog 20 #[.slice aV' nV cV', .int .i64 j] w' fun e w'' => e = .returned (.string (V j)) ∧ w'' = w') := fun j w' hb => strAt_any aV' nV cV' V j w' (str_below HV7.out hb).cells HV7.out.out
      have DL : Hid (∀ (j : Nat) (w' : World), Below v7.heap.size v7 w' → Calls Try.prog 20 #[.slice aL' nL cL', .int .i64 j] w' fun e w'' => e = .returned (.string (L j)) ∧ w'' = w') := fun j w' hb => strAt_any aL' nL cL' L j w' (str_below HL7.out hb).cells HL7.out.out
      have DE : Hid (∀ (j : Nat) (w' : World), Below v7.heap.size v7 w' → Calls Try.prog 20 #[.slice aE' nE cE', .int .i64 j] w' fun e w'' => e = .returned (.string (E j)) ∧ w'' = w') := fun j w' hb => strAt_any aE' nE cE' E j w' (str_below HE7.out hb).cells HE7.out.out
      have DO : Hid (∀ (j : Nat) (w' : World), Below v7.heap.size v7 w' → Calls Try.prog 20 #[.slice aO' nO cO', .int .i64 j] w' fun e w'' => e = .returned (.string (O j)) ∧ w'' = w') := fun j w' hb => strAt_any aO' nO cO' O j w' (str_below HO7.out hb).cells HO7.out.out
      have DT : Hid (∀ (j : Nat) (w' : World), Below v7.heap.size v7 w' → Calls Try.prog 21 #[.slice aT' nT cT', .int .i64 j] w' fun e w'' => e = .returned (.int .u64 (T j)) ∧ w'' = w') := fun j w' hb => u64At_any aT' nT cT' T j w' (u64_below HT7.out hb).cells HT7.out.out
      have DB : Hid (∀ (j : Nat) (w' : World), Below v7.heap.size v7 w' → Calls Try.prog 21 #[.slice aB' nB cB', .int .i64 j] w' fun e w'' => e = .returned (.int .u64 (B j)) ∧ w'' = w') := fun j w' hb => u64At_any aB' nB cB' B j w' (u64_below HB7.out hb).cells HB7.out.out
      have D41 : Hid (∀ (i j : Nat) (w' : World), Below v7.heap.size v7 w' → Calls Try.prog 41 #[.slice aK' nK cK', .slice aL' nL cL', .int .i64 i, .int .i64 j] w' fun e w'' => e = .returned (.bool (same K L i j)) ∧ w'' = w') := fun i j w' hb => same_any aK' aL' nK nL cK' cL' K L i j w' (str_below HK7.out hb).cells (str_below HL7.out hb).cells HK7.out.out HL7.out.out
      have D32 : Hid (∀ (s i : Nat) (w' : World), i ≤ 1048576 → Below v7.heap.size v7 w' → Calls Try.prog 32 #[.slice aK' nK cK', .slice aL' nL cL', .int .i64 s, .int .i64 i] w' (PostF K L s i w')) := fun s i w' hi hb => first_any aK' aL' nK nL cK' cL' K L s i w' (str_below HK7.out hb).cells (str_below HL7.out hb).cells HK7.out.out HL7.out.out hi
      have HCK : Hid (Str v7 aK' nK K) := HK7.out
      have HCL : Hid (Str v7 aL' nL L) := HL7.out
      have HCR : Hid (Cells v7 aR' nR (u64s R)) := HR7.out.cells
      have HB9 : Hid (Below w2.heap.size w2 v7) := HB8.out
      clear HR7 HK7 HV7 HL7 HE7 HO7 HT7 HB7 HB8
      go_upto_block 0 with fail
      go_cut [] (fun wx => AtB v7 wx p bm start after limit c B nR)
      case first =>
        as_aux_lemma =>
          go_wp2
          go_loopw [25] (fun y wr => ∃ t : Nat, t ≤ nR ∧ y = .int .i64 t ∧ AtB v7 wr p bm start after limit c B t) (fun y _ => nR - (intOf y).toNat)
          case atStart => exact ⟨0, Nat.zero_le _, rfl, HA0.out⟩
          case round =>
            clear HA0
            obtain ⟨t, ht, rfl, hAt⟩ := hrel
            have HAt : Hid (AtB v7 wr p bm start after limit c B t) := hAt
            clear hAt
            by_cases hlt : t < nR
            · go_upto_block 1 with fail
              go_cut [] (fun wx => AtB v7 wx p bm start after limit c B (t + 1))
              case first =>
                as_aux_lemma =>
                  have CK : Hid (Calls Try.prog 20 #[.slice aK' nK cK', .int .i64 t] wr.drew fun e w' => e = .returned (.string (K t)) ∧ w' = wr.drew) := DK.out t _ HAt.out.below.drew
                  have CV : Hid (Calls Try.prog 20 #[.slice aV' nV cV', .int .i64 t] wr.drew fun e w' => e = .returned (.string (V t)) ∧ w' = wr.drew) := DV.out t _ HAt.out.below.drew
                  have CL : Hid (Calls Try.prog 20 #[.slice aL' nL cL', .int .i64 t] wr.drew fun e w' => e = .returned (.string (L t)) ∧ w' = wr.drew) := DL.out t _ HAt.out.below.drew
                  have CE : Hid (Calls Try.prog 20 #[.slice aE' nE cE', .int .i64 t] wr.drew fun e w' => e = .returned (.string (E t)) ∧ w' = wr.drew) := DE.out t _ HAt.out.below.drew
                  have CO : Hid (Calls Try.prog 20 #[.slice aO' nO cO', .int .i64 t] wr.drew fun e w' => e = .returned (.string (O t)) ∧ w' = wr.drew) := DO.out t _ HAt.out.below.drew
                  have CT : Hid (Calls Try.prog 21 #[.slice aT' nT cT', .int .i64 t] wr.drew fun e w' => e = .returned (.int .u64 (T t)) ∧ w' = wr.drew) := DT.out t _ HAt.out.below.drew
                  have CB : Hid (Calls Try.prog 21 #[.slice aB' nB cB', .int .i64 t] wr.drew fun e w' => e = .returned (.int .u64 (B t)) ∧ w' = wr.drew) := DB.out t _ HAt.out.below.drew
                  have CADD : Hid (Calls Try.prog 19 #[.pointer (some ⟨p, 0, none⟩), .int .u64 (R t), .string (K t), .string (V t), .string (L t), .string (E t), .string (O t), .int .u64 (T t), .int .u64 (B t), .int .i64 limit] wr.drew fun e w' => e = .returned (.tuple #[]) ∧ AtB v7 w' p bm start after limit c B (t + 1)) := HADD.out t _ hlt (atB_below HAt.out ((Below.refl _ _).drew))
                  obtain ⟨b, off, hx, hcr⟩ := HCR.out (by omega)
                  have hck8 : v7.cell? ⟨b, off + t, none⟩ = some (.int .u64 (R t)) := hcr t hlt
                  have hck : wr.cell? ⟨b, off + t, none⟩ = some (.int .u64 (R t)) := (HAt.out.below.cell (World.block_lt_of_cell? _ _ hck8)).trans hck8
                  have HCK8 : Hid (v7.cell? ⟨b, off + t, none⟩ = some (.int .u64 (R t))) := hck8
                  clear hck8
                  subst hx
                  clear hcr DK DV DL DE DO DT DB D29 D41 D32 HADD
                  go_upto_region 18 with fail
                  go_region_held (fun w' => w'.cell? ⟨b, off + t, none⟩ = some (.int .u64 (R t))) (go_keep) (first | (go_at_call_of 20 aK'; refine Calls.mono CK.out ?_; rintro e w4 ⟨rfl, rfl⟩) | (go_at_call_of 20 aV'; refine Calls.mono CV.out ?_; rintro e w4 ⟨rfl, rfl⟩) | (go_at_call_of 20 aL'; refine Calls.mono CL.out ?_; rintro e w4 ⟨rfl, rfl⟩) | (go_at_call_of 20 aE'; refine Calls.mono CE.out ?_; rintro e w4 ⟨rfl, rfl⟩) | (go_at_call_of 20 aO'; refine Calls.mono CO.out ?_; rintro e w4 ⟨rfl, rfl⟩) | (go_at_call_of 21 aT'; refine Calls.mono CT.out ?_; rintro e w4 ⟨rfl, rfl⟩) | (go_at_call_of 21 aB'; refine Calls.mono CB.out ?_; rintro e w4 ⟨rfl, rfl⟩) | (go_at_call 19; refine Calls.mono CADD.out ?_; rintro e w4 ⟨rfl, hst⟩; have HST : Hid (AtB v7 w4 p bm start after limit c B (t + 1)) := hst; have hk4 := (hst.below.cell (World.block_lt_of_cell? _ _ HCK8.out)).trans HCK8.out; clear hst))
                  all_goals go_wp2
                  all_goals go_meet
                  all_goals
                    case rel => exact HST.out
              case rest =>
                as_aux_lemma =>
                  have HST : Hid (AtB v7 wc p bm start after limit c B (t + 1)) := hcut
                  clear hcut
                  go_wp2
                  go_roundw
                  case rel => exact ⟨t + 1, by omega, by go_num, HST.out⟩
                  case measure => simp [intOf]; omega
            · obtain rfl : t = nR := by omega
              go_wp2
              go_meet
              case rel => exact HAt.out
      case rest =>
        as_aux_lemma =>
          obtain ⟨wa, hwa⟩ : ∃ x, x = wc := ⟨_, rfl⟩
          subst hwa
          have HAt : Hid (AtB v7 wa p bm start after limit c B nR) := hcut
          clear hcut HA0 HADD
          have HBf : Hid (Below w2.heap.size w2 wa) := HB9.out.trans (HAt.out.below.mono HB9.out.size)
          have C22 : Hid (Calls Try.prog 22 #[.pointer (some ⟨p, 0, none⟩)] wa fun e w' => e = .returned (.int .u64 start) ∧ w' = wa) := by
            obtain ⟨S, h1, h2⟩ := HAt.out
            exact start_any h1.hist
          by_cases hn0 : nR = 0
          · subst hn0
            obtain ⟨S, h1, h2⟩ := HAt.out
            have hS : S.length = 0 := by
              have h := index_len (K := K) (L := L) HSub.out h1.inv
              rw [h]
              rfl
            have hhist := h1.hist
            rw [seg_nil (Nat.zero_le _)] at hhist
            have C23 : Hid (Calls Try.prog 23 #[.pointer (some ⟨p, 0, none⟩)] wa fun e w' => e = .returned (.int .i64 0) ∧ w' = wa) := len_any hhist
            have C24 : Hid (Calls Try.prog 24 #[.pointer (some ⟨p, 0, none⟩)] wa fun e w' => e = .returned (.int .i64 0) ∧ w' = wa) := dropped_any hhist
            have C25 : Hid (Calls Try.prog 25 #[.pointer (some ⟨p, 0, none⟩)] wa fun e w' => e = .returned (.int .i64 0) ∧ w' = wa) := hsize_any hhist
            have C26 : Hid (Calls Try.prog 26 #[.pointer (some ⟨p, 0, none⟩)] wa fun e w' => e = .returned (.int .u64 after) ∧ w' = wa) := after_any hhist
            have C27 : Hid (Calls Try.prog 27 #[.pointer (some ⟨p, 0, none⟩)] wa fun e w' => e = .returned (.int .i64 0) ∧ w' = wa) := by
              have h := ilen_any hhist
              rw [hS] at h
              exact h
            clear hhist hS h1 h2
            go_wp2_with (first | (go_at_call 22; refine Calls.mono C22.out ?_; rintro e w6 ⟨rfl, hw6⟩; replace hw6 := hw6.symm; subst hw6) | (go_at_call 23; refine Calls.mono C23.out ?_; rintro e w6 ⟨rfl, hw6⟩; replace hw6 := hw6.symm; subst hw6) | (go_at_call 24; refine Calls.mono C24.out ?_; rintro e w6 ⟨rfl, hw6⟩; replace hw6 := hw6.symm; subst hw6) | (go_at_call 25; refine Calls.mono C25.out ?_; rintro e w6 ⟨rfl, hw6⟩; replace hw6 := hw6.symm; subst hw6) | (go_at_call 26; refine Calls.mono C26.out ?_; rintro e w6 ⟨rfl, hw6⟩; replace hw6 := hw6.symm; subst hw6) | (go_at_call 27; refine Calls.mono C27.out ?_; rintro e w6 ⟨rfl, hw6⟩; replace hw6 := hw6.symm; subst hw6))
            go_ret
            exact ⟨rfl, HBf.out⟩
          · have hmk := run_make_row' (P := Try.prog) 46 3 (.int .i64 0) 8 Try.underlying46 info3 rfl .i64 .i64 nR (by omega) (by omega)
            have hnz : ((nR : Int) == 0) = false := by rw [beq_eq_false_iff_ne]; omega
            go_upto_block 2 with (go_at_call 22; refine Calls.mono C22.out ?_; rintro e w6 ⟨rfl, hw6⟩; replace hw6 := hw6.symm; subst hw6)
            clear hmk C22
            go_cut [] (fun wx => Below wa.heap.size wa wx ∧ RowK wx wa.heap.size 3 nR nR (ks (kept c limit)))
            case first =>
              as_aux_lemma =>
                go_wp2
                go_loopw [27] (fun y wr => ∃ t : Nat, t ≤ nR ∧ y = .int .i64 t ∧ Below wa.heap.size wa wr ∧ RowK wr wa.heap.size 3 nR t (ks (kept c limit))) (fun y _ => nR - (intOf y).toNat)
                case atStart => exact ⟨0, Nat.zero_le _, rfl, (Below.refl _ _).alloc (Nat.le_refl _) _, _, World.rowIs_made _ _ _ _, fun _ hi => absurd hi (Nat.not_lt_zero _)⟩
                case round =>
                  obtain ⟨t, ht, rfl, hb, hr⟩ := hrel
                  by_cases hlt : t < nR
                  · have HBv : Hid (Below v7.heap.size v7 wr) := HAt.out.below.trans (hb.mono HAt.out.below.size)
                    have C28 : Hid (Calls Try.prog 28 #[.slice aK' nK cK', .slice aV' nV cV', .slice aL' nL cL', .slice aO' nO cO', .int .i64 t, .int .i64 limit] wr fun e w' => e = .returned (.int .i64 (kept c limit t : Nat)) ∧ w' = wr) := kept_any aK' aV' aL' aO' nK nV nL nO cK' cV' cL' cO' c limit t wr HCo.out (by omega) (fun j => D29.out j wr HBv.out)
                    have R1 : Hid (RowK (wr.setCell ⟨wa.heap.size, t, none⟩ (.int .i64 (kept c limit t : Nat))) wa.heap.size 3 nR (t + 1) (ks (kept c limit))) := rowK_set hr
                    have R2 : Hid (∀ v, Below wa.heap.size wa (wr.setCell ⟨wa.heap.size, t, none⟩ v)) := fun v => hb.setCell (p := ⟨wa.heap.size, t, none⟩) (Nat.le_refl _) v
                    obtain ⟨f, hf, _⟩ := hr
                    have s1 := hf.cell hlt
                    have s2 := hf.frozen t
                    clear hf hb
                    go_wp2_with (go_at_call 28; refine Calls.mono C28.out ?_; rintro e w6 ⟨rfl, hw6⟩; replace hw6 := hw6.symm; subst hw6)
                    go_roundw
                    case rel => exact ⟨t + 1, by omega, by go_num, R2.out _, R1.out⟩
                    case measure => simp [intOf]; omega
                  · obtain rfl : t = nR := by omega
                    go_wp2
                    go_meet
                    case rel => exact ⟨hb, hr⟩
            case rest =>
              as_aux_lemma =>
                obtain ⟨hb5, hr5⟩ := hcut
                obtain ⟨w5, hw5⟩ : ∃ x, x = wc := ⟨_, rfl⟩
                subst hw5
                obtain ⟨r, rfl⟩ : ∃ r, nR = r + 1 := ⟨nR - 1, by omega⟩
                have hle : kept c limit r ≤ r := (kept_kf limit r).le
                have hck5 : w5.cell? ⟨wa.heap.size, r, none⟩ = some (.int .i64 (kept c limit r : Nat)) := by
                  obtain ⟨f, hf, hv⟩ := hr5
                  rw [hf.cell (by omega), hv r (by omega)]
                  rfl
                have HF5 : Hid (Cells w5 (some ⟨wa.heap.size, 0, none⟩) (r + 1) (ks (kept c limit))) := fun _ => by
                  obtain ⟨f, hf, hv⟩ := hr5
                  exact ⟨wa.heap.size, 0, rfl, fun i hi => by rw [Nat.zero_add, hf.cell hi, hv i hi]⟩
                obtain ⟨S, h1, h2⟩ := HAt.out
                have HBI : Hid (BI c limit B S) := h2
                have HA5 : Hid (At v7 w5 p bm start after c (kept c limit r) (r + 1) S) := at_below h1 hb5
                have HB5 : Hid (Below w2.heap.size w2 w5) := HBf.out.trans (hb5.mono HBf.out.size)
                clear h1 h2 hr5 hb5 HAt HBf HB9 hnz hn0
                have HKF : Hid (kept c limit = kept c limit) := rfl
                generalize hks : kept c limit r = s at *
                have HKS : Hid (kept c limit r = s) := hks
                clear hks HKF
                have C24 : Hid (Calls Try.prog 24 #[.pointer (some ⟨p, 0, none⟩)] w5 fun e w' => e = .returned (.int .i64 s) ∧ w' = w5) := dropped_any HA5.out.hist
                have C23 : Hid (Calls Try.prog 23 #[.pointer (some ⟨p, 0, none⟩)] w5 fun e w' => e = .returned (.int .i64 ((r : Int) + 1 - (s : Int))) ∧ w' = w5) := by
                  have h := len_any HA5.out.hist
                  rw [seg_len] at h
                  have e : ((r + 1 - s : Nat) : Int) = (r : Int) + 1 - (s : Int) := by omega
                  rw [e] at h
                  exact h
                have C26 : Hid (Calls Try.prog 26 #[.pointer (some ⟨p, 0, none⟩)] w5 fun e w' => e = .returned (.int .u64 (aft after c s)) ∧ w' = w5) := after_any HA5.out.hist
                go_upto_if 185 with (first | (go_at_call 24; refine Calls.mono C24.out ?_; rintro e w6 ⟨rfl, hw6⟩; replace hw6 := hw6.symm; subst hw6) | (go_at_call 23; refine Calls.mono C23.out ?_; rintro e w6 ⟨rfl, hw6⟩; replace hw6 := hw6.symm; subst hw6))
                clear C24 C23 hck5
                go_cut [29] (fun x wx => x = .int .u64 (aft after c s) ∧ wx = w5)
                case first =>
                  as_aux_lemma =>
                    cases s with
                    | zero =>
                      go_wp2
                      go_meet
                      case rel => exact ⟨rfl, rfl⟩
                    | succ q =>
                      obtain ⟨b, off, hx, hcr⟩ := HCR.out (by omega)
                      have hck8 : v7.cell? ⟨b, off + q, none⟩ = some (.int .u64 (R q)) := hcr q (by omega)
                      have hck5 : w5.cell? ⟨b, off + q, none⟩ = some (.int .u64 (R q)) := (HA5.out.below.cell (World.block_lt_of_cell? _ _ hck8)).trans hck8
                      clear hck8 hcr
                      subst hx
                      have HRR : Hid (aft after c (q + 1) = R q) := HRev.out q
                      go_wp2
                      go_meet
                      case rel => exact ⟨by rw [HRR.out], rfl⟩
                case rest =>
                  as_aux_lemma =>
                    obtain ⟨rfl, hw⟩ := hcut
                    replace hw := hw.symm
                    subst hw
                    go_upto_block 4 with (go_at_call 26; refine Calls.mono C26.out ?_; rintro e w6 ⟨rfl, hw6⟩; replace hw6 := hw6.symm; subst hw6)
                    clear C26
                    have HZB : Hid (∀ s m : Nat, m ≤ 4096 → costs (seg c s m) ≤ 34359738368) := fun s m hm => by
                      have := costs_seg_le HCo.out s m
                      have : m * 8388608 ≤ 4096 * 8388608 := Nat.mul_le_mul_right _ hm
                      omega
                    go_cut [30] (fun x wx => x = .int .i64 (costs (seg c s (r + 1)) : Nat) ∧ Below w5.heap.size w5 wx)
                    case first =>
                      as_aux_lemma =>
                        go_wp2
                        go_loopw [30, 31] (fun x y wr => ∃ j : Nat, s ≤ j ∧ j ≤ r + 1 ∧ y = .int .i64 j ∧ x = .int .i64 (costs (seg c s j) : Nat) ∧ Below w5.heap.size w5 wr) (fun _ y _ => r + 1 - (intOf y).toNat)
                        case atStart => exact ⟨s, Nat.le_refl _, by omega, rfl, by rw [seg_nil (Nat.le_refl _)]; rfl, Below.refl _ _⟩
                        case round =>
                          obtain ⟨j, hj1, hj2, rfl, rfl, hb⟩ := hrel
                          by_cases hj : j ≤ r
                          · have HAr : Hid (At v7 wr p bm start after c s (r + 1) S) := at_below HA5.out hb
                            have HBr : Hid (Below w5.heap.size w5 wr) := hb
                            have HBv : Hid (Below v7.heap.size v7 wr) := HAr.out.below
                            clear hb
                            have hz1 := HZB.out s j (by omega)
                            have hz2 := HCo.out j
                            have HZ3 : Hid (costs (seg c s (j + 1)) = costs (seg c s j) + cost (c j)) := costs_seg_snoc hj1
                            have C29 : Hid (Calls Try.prog 29 #[.slice aK' nK cK', .slice aV' nV cV', .slice aL' nL cL', .slice aO' nO cO', .int .i64 j] wr fun e w'' => e = .returned (.int .i64 (cost (c j) : Nat)) ∧ w'' = wr) := D29.out j wr HBv.out
                            have C30 : Hid (Calls Try.prog 30 #[.pointer (some ⟨p, 0, none⟩), .int .i64 ((j : Int) - (s : Int))] wr fun e w' => e = .returned (.tuple #[.int .u64 (R j), .string (K j), .string (V j), .string (L j), .string (E j), .string (O j), .int .u64 (T j)]) ∧ Below wr.heap.size wr w') := by
                              have hg : (seg c s (r + 1))[j - s]? = some (c j) := by rw [seg_get (by omega)]; congr 2; omega
                              have h := change_any HAr.out.hist (j - s) (c j) hg (by rw [seg_len]; omega)
                              have e : ((j - s : Nat) : Int) = (j : Int) - (s : Int) := by omega
                              rw [e, DCh.out j] at h
                              exact h
                            obtain ⟨b, off, hx, hcr⟩ := HCR.out (by omega)
                            have HC8 : Hid (v7.cell? ⟨b, off + j, none⟩ = some (.int .u64 (R j))) := hcr j (by omega)
                            clear hcr
                            subst hx
                            generalize costs (seg c s j) = Zj at *
                            generalize cost (c j) = Cj at *
                            go_wp2_with (first | (go_at_call 29; refine Calls.mono C29.out ?_; rintro e w6 ⟨rfl, hw6⟩; replace hw6 := hw6.symm; subst hw6) | (go_at_call 30; refine Calls.mono C30.out ?_; rintro e wx ⟨rfl, hbx⟩; have HBx : Hid (Below v7.heap.size v7 wx) := HBv.out.trans (hbx.mono HBv.out.size); have HBy : Hid (Below w5.heap.size w5 wx) := HBr.out.trans (hbx.mono HBr.out.size); have hckx : wx.cell? ⟨b, off + j, none⟩ = some (.int .u64 (R j)) := (HBx.out.cell (World.block_lt_of_cell? _ _ HC8.out)).trans HC8.out; clear hbx) | (go_at_call_of 20 aK'; refine Calls.mono (DK.out j _ HBx.out) ?_; rintro e w6 ⟨rfl, hw6⟩; replace hw6 := hw6.symm; subst hw6) | (go_at_call_of 20 aV'; refine Calls.mono (DV.out j _ HBx.out) ?_; rintro e w6 ⟨rfl, hw6⟩; replace hw6 := hw6.symm; subst hw6) | (go_at_call_of 20 aL'; refine Calls.mono (DL.out j _ HBx.out) ?_; rintro e w6 ⟨rfl, hw6⟩; replace hw6 := hw6.symm; subst hw6) | (go_at_call_of 20 aE'; refine Calls.mono (DE.out j _ HBx.out) ?_; rintro e w6 ⟨rfl, hw6⟩; replace hw6 := hw6.symm; subst hw6) | (go_at_call_of 20 aO'; refine Calls.mono (DO.out j _ HBx.out) ?_; rintro e w6 ⟨rfl, hw6⟩; replace hw6 := hw6.symm; subst hw6) | (go_at_call_of 21 aT'; refine Calls.mono (DT.out j _ HBx.out) ?_; rintro e w6 ⟨rfl, hw6⟩; replace hw6 := hw6.symm; subst hw6))
                            go_roundw
                            case rel => exact ⟨j + 1, by omega, by omega, by go_num, by rw [HZ3.out]; go_num, HBy.out⟩
                            case measure => simp [intOf]; omega
                          · obtain rfl : j = r + 1 := by omega
                            go_wp2
                            go_meet
                            case rel => exact ⟨rfl, hb⟩
                    case rest =>
                      as_aux_lemma =>
                        obtain ⟨rfl, hb6⟩ := hcut
                        obtain ⟨w6, hw6⟩ : ∃ x, x = wc := ⟨_, rfl⟩
                        subst hw6
                        have HA6 : Hid (At v7 w6 p bm start after c s (r + 1) S) := at_below HA5.out hb6
                        have HF6 : Hid (Cells w6 (some ⟨wa.heap.size, 0, none⟩) (r + 1) (ks (kept c limit))) := cells_below HF5.out hb6
                        have HB6 : Hid (Below w2.heap.size w2 w6) := HB5.out.trans (hb6.mono HB5.out.size)
                        clear hb6 HA5 HF5 HB5
                        have C25 : Hid (Calls Try.prog 25 #[.pointer (some ⟨p, 0, none⟩)] w6 fun e w' => e = .returned (.int .i64 (costs (seg c s (r + 1)) : Nat)) ∧ w' = w6) := hsize_any HA6.out.hist
                        have C31 : Hid (Calls Try.prog 31 #[.pointer (some ⟨p, 0, none⟩), .slice aK' nK cK', .slice aL' nL cL', .int .i64 s, .int .i64 ((r : Int) + 1)] w6 (PostYes w6)) := indexOK_any HA6.out.hist HA6.out.inv aK' aL' nK nL cK' cL' K L (str_below HCK.out HA6.out.below) (str_below HCL.out HA6.out.below) HSub.out (by omega) (by omega)
                        have hZb := HZB.out s (r + 1) (by omega)
                        generalize costs (seg c s (r + 1)) = Z at *
                        go_upto_block 6 with (first | (go_at_call 25; refine Calls.mono C25.out ?_; rintro e w9 ⟨rfl, hw9⟩; replace hw9 := hw9.symm; subst hw9) | (go_at_call 31; refine Calls.mono C31.out ?_; rintro e w7 ⟨rfl, hb7⟩; have HA7 : Hid (At v7 w7 p bm start after c s (r + 1) S) := at_below HA6.out hb7; have HF7 : Hid (Cells w7 (some ⟨wa.heap.size, 0, none⟩) (r + 1) (ks (kept c limit))) := cells_below HF6.out hb7; have HB7 : Hid (Below w2.heap.size w2 w7) := HB6.out.trans (hb7.mono HB6.out.size); clear hb7))
                        clear C25 C31 HA6 HF6 HB6
                        go_cut [] (fun wx => Below w7.heap.size w7 wx)
                        case first =>
                          as_aux_lemma =>
                            go_wp2
                            go_loopw [39] (fun y wr => ∃ j : Nat, s ≤ j ∧ j ≤ r + 1 ∧ y = .int .i64 j ∧ Below w7.heap.size w7 wr) (fun y _ => r + 1 - (intOf y).toNat)
                            case atStart => exact ⟨s, Nat.le_refl _, by omega, rfl, Below.refl _ _⟩
                            case round =>
                              obtain ⟨j, hj1, hj2, rfl, hb⟩ := hrel
                              by_cases hj : j ≤ r
                              · have HAr : Hid (At v7 wr p bm start after c s (r + 1) S) := at_below HA7.out hb
                                have HFr : Hid (Cells wr (some ⟨wa.heap.size, 0, none⟩) (r + 1) (ks (kept c limit))) := cells_below HF7.out hb
                                have HBr : Hid (Below w7.heap.size w7 wr) := hb
                                have HBv : Hid (Below v7.heap.size v7 wr) := HAr.out.below
                                clear hb
                                by_cases hf : firstK K L s j
                                · have C32 : Hid (Calls Try.prog 32 #[.slice aK' nK cK', .slice aL' nL cL', .int .i64 s, .int .i64 j] wr fun e w' => e = .returned (.bool true) ∧ w' = wr) := by
                                    refine (D32.out s j wr (by omega) HBv.out).mono ?_
                                    rintro e w' ⟨rfl, b, rfl, hbf⟩
                                    rw [hbf.2 hf]
                                    exact ⟨rfl, rfl⟩
                                  obtain ⟨jj, ent, hS, hek, hel, hW⟩ := bi_at HSub.out HAr.out.inv HBI.out hj1 (by omega) hf
                                  have C33 : Hid (Calls Try.prog 33 #[.pointer (some ⟨p, 0, none⟩), .string (K j), .string (L j)] wr fun e w' => Below wr.heap.size wr w' ∧ ∃ g o cp m, e = .returned (.tuple #[.slice (some ⟨g, o, none⟩) m cp, .int .u64 ent.bef, .bool true])) := by
                                    have h := index_any HAr.out.hist jj ent hS
                                    rw [hek, hel] at h
                                    refine h.mono ?_
                                    rintro e w' ⟨h1, g, o, cp, rfl, _⟩
                                    exact ⟨h1, g, o, cp, _, rfl⟩
                                  have C34 : Hid (∀ w', Below wr.heap.size wr w' → Calls Try.prog 34 #[.slice aR' (r + 1) cR', .slice aK' nK cK', .slice aL' nL cL', .slice aB' nB cB', .slice (some ⟨wa.heap.size, 0, none⟩) (r + 1) (r + 1), .int .i64 j] w' fun e w'' => e = .returned (.int .u64 ent.bef) ∧ w'' = w') := fun w' hb' =>
                                    want_any aR' aK' aL' aB' (some ⟨wa.heap.size, 0, none⟩) (r + 1) nK nL nB (r + 1) cR' cK' cL' cB' (r + 1) K L R B (kept c limit) j ent.bef w' (cells_below HCR.out (HBv.out.trans (hb'.mono HBv.out.size))) (cells_below HFr.out hb') (by omega) (by omega) (Nat.le_refl _) (fun i k => D41.out i k w' (HBv.out.trans (hb'.mono HBv.out.size))) (DB.out j w' (HBv.out.trans (hb'.mono HBv.out.size))) (ways HSub.out HRev.out hW)
                                  clear hW hS hek hel hf
                                  generalize ent.bef = bv at *
                                  have CK : Hid (Calls Try.prog 20 #[.slice aK' nK cK', .int .i64 j] wr fun e w'' => e = .returned (.string (K j)) ∧ w'' = wr) := DK.out j wr HBv.out
                                  have CL : Hid (Calls Try.prog 20 #[.slice aL' nL cL', .int .i64 j] wr fun e w'' => e = .returned (.string (L j)) ∧ w'' = wr) := DL.out j wr HBv.out
                                  go_wp2_with (first | (go_at_call 32; refine Calls.mono C32.out ?_; rintro e w6 ⟨rfl, hw6⟩; replace hw6 := hw6.symm; subst hw6) | (go_at_call_of 20 aK'; refine Calls.mono CK.out ?_; rintro e w6 ⟨rfl, hw6⟩; replace hw6 := hw6.symm; subst hw6) | (go_at_call_of 20 aL'; refine Calls.mono CL.out ?_; rintro e w6 ⟨rfl, hw6⟩; replace hw6 := hw6.symm; subst hw6) | (go_at_call 33; refine Calls.mono C33.out ?_; rintro e wx ⟨hbx, g, o, cpx, mx, rfl⟩; have HBx : Hid (Below wr.heap.size wr wx) := hbx; clear hbx) | (go_at_call 34; refine Calls.mono (C34.out _ HBx.out) ?_; rintro e w6 ⟨rfl, hw6⟩; replace hw6 := hw6.symm; subst hw6))
                                  go_roundw
                                  case rel => exact ⟨j + 1, by omega, by omega, by go_num, HBr.out.trans (HBx.out.mono HBr.out.size)⟩
                                  case measure => simp [intOf]; omega
                                · have C32 : Hid (Calls Try.prog 32 #[.slice aK' nK cK', .slice aL' nL cL', .int .i64 s, .int .i64 j] wr fun e w' => e = .returned (.bool false) ∧ w' = wr) := by
                                    refine (D32.out s j wr (by omega) HBv.out).mono ?_
                                    rintro e w' ⟨rfl, b, rfl, hbf⟩
                                    cases b with
                                    | true => exact absurd (hbf.1 rfl) hf
                                    | false => exact ⟨rfl, rfl⟩
                                  clear hf
                                  go_wp2_with (go_at_call 32; refine Calls.mono C32.out ?_; rintro e w6 ⟨rfl, hw6⟩; replace hw6 := hw6.symm; subst hw6)
                                  go_roundw
                                  case rel => exact ⟨j + 1, by omega, by omega, by go_num, HBr.out⟩
                                  case measure => simp [intOf]; omega
                              · obtain rfl : j = r + 1 := by omega
                                go_wp2
                                go_meet
                                case rel => exact hb
                        case rest =>
                          as_aux_lemma =>
                            have HBz : Hid (Below w2.heap.size w2 wc) := HB7.out.trans (hcut.mono HB7.out.size)
                            clear hcut
                            go_wp2
                            go_ret
                            exact ⟨rfl, HBz.out⟩
end Go.Proofs.Qxb6603793a.hist
