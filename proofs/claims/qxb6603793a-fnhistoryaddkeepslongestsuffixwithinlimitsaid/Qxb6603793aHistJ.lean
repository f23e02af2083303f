/-
  Seat b6603793a: the walk of indexPositionsOK (31).
-/
import Derived.Test.Qxb6603793aHistP
namespace Go.Proofs.Qxb6603793a.hist
open Go.RowKit Go.Deep

/-- Slices of strings, as the laws hand them on. -/
structure Str (w : World) (a : Option Addr) (n : Nat) (F : Nat → ByteArray) : Prop where
  cells : Cells w a n (strs F)
  out : ∀ j, n ≤ j → F j = emp
theorem str_below {w w' : World} {a : Option Addr} {n : Nat} {F : Nat → ByteArray} (h : Str w a n F) (hb : Below w.heap.size w w') : Str w' a n F := ⟨cells_below h.cells hb, h.out⟩

/-- A yes, behind the old world. -/
def PostYes (w : World) (e : Ending) (w' : World) : Prop := e = .returned (.bool true) ∧ Below w.heap.size w w'

set_option maxHeartbeats 1000000 in
theorem indexOK_any {w : World} {H0 p bm s n : Nat} {start after : Int} {c : Nat → Chg} {S : List Idx} (hh : Hist w H0 p bm start after s (seg c s n) S) (hI : Inv s (seg c s n) S) (a1 a2 : Option Addr) (n1 n2 c1 c2 : Nat) (K L : Nat → ByteArray) (hK : Str w a1 n1 K) (hL : Str w a2 n2 L) (hc : Subj c K L) (hs : s ≤ n) (hn : n ≤ 4096) :
    Calls Try.prog 31 #[.pointer (some ⟨p, 0, none⟩), .slice a1 n1 c1, .slice a2 n2 c2, .int .i64 s, .int .i64 n] w (PostYes w) := by
  have HH : Hid (Hist w H0 p bm start after s (seg c s n) S) := hh
  have HI : Hid (Inv s (seg c s n) S) := hI
  have HK : Hid (Str w a1 n1 K) := hK
  have HL : Hid (Str w a2 n2 L) := hL
  have HC : Hid (Subj c K L) := hc
  clear hh hI hK hL hc
  go_enter Try.func31, Try.ntmps31
  go_wp2
  go_loopw [11, 12] (fun x y wr => ∃ i : Nat, s ≤ i ∧ i ≤ n ∧ y = .int .i64 i ∧ x = .int .i64 ((firsts K L s (i - s)).length : Nat) ∧ Below w.heap.size w wr) (fun _ y _ => n - (intOf y).toNat)
  case atStart => exact ⟨s, Nat.le_refl _, hs, rfl, by simp [firsts], Below.refl _ _⟩
  case round =>
    obtain ⟨i, h1, h2, rfl, rfl, hb⟩ := hrel
    have HB : Hid (Below w.heap.size w wr) := hb
    have HKr : Hid (Str wr a1 n1 K) := str_below HK.out hb
    have HLr : Hid (Str wr a2 n2 L) := str_below HL.out hb
    have HHr : Hid (Hist wr H0 p bm start after s (seg c s n) S) := hist_below HH.out hb
    clear hb
    have hfl : (firsts K L s (i - s)).length ≤ 4096 := by
      have := len_le_of_mem (firsts K L s (i - s)) (List.range n) (firsts_nodup _) (fun x hx => by
        have := firsts_mem.1 hx
        exact List.mem_range.2 (by omega))
      simp at this
      omega
    by_cases hlt : i < n
    · by_cases hf : firstK K L s i
      · have HF : Hid (firstK K L s i) := hf
        have hfy := firsts_yes h1 hf
        have HFY : Hid ((firsts K L s (i + 1 - s)).length = (firsts K L s (i - s)).length + 1) := hfy
        clear hfy hf
        obtain ⟨j, e, hj, ek, el, hp⟩ := entry_of HC.out HI.out h1 hlt
        have HJ : Hid (S[j]? = some e) := hj
        have HEK : Hid (e.k = K i) := ek
        have HEL : Hid (e.l = L i) := el
        have HP : Hid (e.ps = posOf s (seg c s n) (K i) (L i)) := hp
        clear hj ek el hp
        generalize hX : (firsts K L s (i - s)).length = X at *
        clear hX
        go_upto_region 7 with (go_at_call 32; refine (first_any a1 a2 n1 n2 c1 c2 K L s i _ HKr.out.cells HLr.out.cells HKr.out.out HLr.out.out (by omega)).mono ?_; rintro e' w1 ⟨rfl, b, rfl, hb⟩; obtain rfl := hb.2 HF.out; clear hb)
        have HIx : Hid (Calls Try.prog 33 #[.pointer (some ⟨p, 0, none⟩), .string (K i), .string (L i)] w1 (PostIx w1 e)) := by
          show Calls _ _ _ _ _
          rw [← HEK.out, ← HEL.out]
          exact index_any HHr.out j e HJ.out
        have hpl : e.ps.length ≤ 4096 := by
          have := posOf_len (K i) (L i) (seg c s n) s
          rw [HP.out]
          rw [seg_len] at this
          omega
        go_wp2_with fail
        refine (strAt_any a1 n1 c1 K i _ HKr.out.cells HKr.out.out).mono ?_
        rintro e' w2 ⟨rfl, rfl⟩
        go_wp2_with fail
        refine (strAt_any a2 n2 c2 L i _ HLr.out.cells HLr.out.out).mono ?_
        rintro e' w3 ⟨rfl, rfl⟩
        go_wp2_with fail
        refine Calls.mono HIx.out ?_
        rintro e' w4 ⟨hb4, g, o, cp, rfl, hcell⟩
        have HCell : Hid (∀ i q, e.ps[i]? = some q → w4.cell? ⟨g, o + i, none⟩ = some (.int .i64 (q : Nat))) := hcell
        have HB4 : Hid (Below w.heap.size w w4) := HB.out.trans (hb4.mono HB.out.size)
        have HK4 : Hid (Str w4 a1 n1 K) := str_below HKr.out hb4
        have HL4 : Hid (Str w4 a2 n2 L) := str_below HLr.out hb4
        clear hcell hb4 HKr HLr HHr HIx HB HEK HEL HJ
        go_wp2
        go_loop [16, 17] (fun x y => ∃ q : Nat, i ≤ q ∧ q ≤ n ∧ y = .int .i64 q ∧ x = .int .i64 ((posOf s (seg c s q) (K i) (L i)).length : Nat)) (fun _ y => n - (intOf y).toNat)
        case atStart => exact ⟨i, Nat.le_refl _, h2, rfl, by rw [first_none HC.out HF.out]; rfl⟩
        case round =>
          obtain ⟨q, hq1, hq2, rfl, rfl⟩ := hrel
          have hql : (posOf s (seg c s q) (K i) (L i)).length ≤ 4096 := by
            have := posOf_len (K i) (L i) (seg c s q) s
            rw [seg_len] at this
            omega
          by_cases hqn : q < n
          · cases hsm : same K L i q with
            | true =>
              have HSM : Hid (same K L i q = true) := hsm
              clear hsm
              obtain ⟨hat, hnx⟩ := entry_at HC.out (show s ≤ q by omega) hqn HSM.out
              rw [← HP.out] at hat
              have hck := HCell.out _ _ hat
              have hlt2 : (posOf s (seg c s q) (K i) (L i)).length < e.ps.length := (List.getElem?_eq_some_iff.1 hat).1
              have HNX : Hid ((posOf s (seg c s (q + 1)) (K i) (L i)).length = (posOf s (seg c s q) (K i) (L i)).length + 1) := by
                show _ = _
                rw [hnx]; simp
              clear hat hnx
              generalize (posOf s (seg c s q) (K i) (L i)).length = Y at *
              go_wp2_with (go_at_call 41; refine (same_any a1 a2 n1 n2 c1 c2 K L i q _ HK4.out.cells HL4.out.cells HK4.out.out HL4.out.out).mono ?_; rintro e' w5 ⟨rfl, rfl⟩; rw [HSM.out])
              go_round
              case rel => exact ⟨q + 1, by omega, by omega, by go_num, by rw [HNX.out]; go_num⟩
              case measure => simp [intOf]; omega
            | false =>
              have HSM : Hid (same K L i q = false) := hsm
              clear hsm
              have hnx := entry_skip HC.out (show s ≤ q by omega) HSM.out
              have HNX : Hid ((posOf s (seg c s (q + 1)) (K i) (L i)).length = (posOf s (seg c s q) (K i) (L i)).length) := congrArg List.length hnx
              clear hnx
              generalize (posOf s (seg c s q) (K i) (L i)).length = Y at *
              go_wp2_with (go_at_call 41; refine (same_any a1 a2 n1 n2 c1 c2 K L i q _ HK4.out.cells HL4.out.cells HK4.out.out HL4.out.out).mono ?_; rintro e' w5 ⟨rfl, rfl⟩; rw [HSM.out])
              go_round
              case rel => exact ⟨q + 1, by omega, by omega, by go_num, by rw [HNX.out]⟩
              case measure => simp [intOf]; omega
          · obtain rfl : q = n := by omega
            have hpe : (posOf s (seg c s q) (K i) (L i)).length = e.ps.length := by rw [HP.out]
            rw [hpe]
            clear hpe
            go_wp2
            go_roundw
            case rel => exact ⟨i + 1, by omega, by omega, by go_num, by rw [HFY.out]; go_num, HB4.out⟩
            case measure => simp [intOf]; omega
      · have HF : Hid (¬ firstK K L s i) := hf
        have hfn := firsts_no h1 hf
        have HFN : Hid ((firsts K L s (i + 1 - s)).length = (firsts K L s (i - s)).length) := hfn
        clear hfn hf
        generalize hX : (firsts K L s (i - s)).length = X at *
        clear hX
        go_wp2_with (go_at_call 32; refine (first_any a1 a2 n1 n2 c1 c2 K L s i _ HKr.out.cells HLr.out.cells HKr.out.out HLr.out.out (by omega)).mono ?_; rintro e' w1 ⟨rfl, b, rfl, hb⟩; obtain rfl : b = false := (by cases b; rfl; exact absurd (hb.1 rfl) HF.out); clear hb)
        go_roundw
        case rel => exact ⟨i + 1, by omega, by omega, by go_num, by rw [HFN.out], HB.out⟩
        case measure => simp [intOf]; omega
    · have hin : i = n := by omega
      have hlen := index_len HC.out HI.out
      have HLE : Hid (S.length = (firsts K L s (n - s)).length) := hlen
      clear hlen
      subst hin
      go_wp2_with (go_at_call 27; refine (ilen_any HHr.out).mono ?_; rintro e' w1 ⟨rfl, rfl⟩; rw [HLE.out])
      go_ret
      exact ⟨rfl, HB.out⟩
end Go.Proofs.Qxb6603793a.hist
