/-
  Seat b6002676a, FnAppendWithinSaturates: the law out of its callees' contracts.
-/
import Derived.Test.Qxb6002676aSatD
import Derived.Deep.RegionWith
namespace Go.Proofs.Qxb6002676a.sat
open Go.RowKit Go.Deep

theorem zzWithin_any (ge gm n m : Nat) (mx : Int) (Le Lm : Nat → Nat) (w : World) (hn : n ≤ 2097152) (hm : m ≤ 1048576) (he : Ents w ge n n Le) (hme : Ents w gm m m Lm)
    (hLe : ∀ i, i < n → Le i ≤ 1048576) (hLm : ∀ i, i < m → Lm i ≤ 1048576) :
    Calls Try.prog 19 #[.slice (some ⟨ge, 0, none⟩) n n, .slice (some ⟨gm, 0, none⟩) m m, .int .i64 mx] w (Post27 w ge n m Le Lm mx) := by
  have h := within_any ge gm n m mx Le Lm w hn hm he hme hLe hLm
  have H : Hid (Calls Try.prog 27 #[.slice (some ⟨ge, 0, none⟩) n n, .slice (some ⟨gm, 0, none⟩) m m, .int .i64 mx] w (Post27 w ge n m Le Lm mx)) := h
  clear h he hme hLe hLm
  go_enter Try.func19, Try.ntmps19
  go_wp2_with fail
  refine H.out.mono ?_
  rintro e w' ⟨k, g, cap, rfl, r⟩
  have R : Hid (k ≤ m ∧ Below w.heap.size w w' ∧ (∀ i, i < k → ¬ Stop n Le Lm mx i) ∧ (k < m → Stop n Le Lm mx k) ∧ Out w w' ge n k (joinL n Le Lm) g cap) := r
  clear r
  go_wp2
  go_ret
  exact ⟨k, g, cap, rfl, R.out⟩

/-- An argument of the law: nil, or rows of bytes. -/
def ArgIs (w : World) (a : Option Addr) (n c : Nat) (A : Nat → Option Addr) (L C : Nat → Nat) : Prop :=
  (a = none → n = 0 ∧ c = 0) ∧ Rows2 w a n A L C ∧ Inner2 w n A L

theorem argIs_below {w w' : World} {a : Option Addr} {n c : Nat} {A : Nat → Option Addr} {L C : Nat → Nat} (h : ArgIs w a n c A L C) (hb : Below w.heap.size w w') : ArgIs w' a n c A L C := by
  obtain ⟨h1, h2, h3⟩ := h
  refine ⟨h1, fun hn => ?_, fun r hr => ?_⟩
  · obtain ⟨b, off, e, hc⟩ := h2 hn
    exact ⟨b, off, e, fun r hr => (hb.cell (World.block_lt_of_cell? _ _ (hc r hr))).trans (hc r hr)⟩
  · obtain ⟨g1, g2⟩ := h3 r hr
    refine ⟨g1, fun c hc => ?_⟩
    obtain ⟨b, o, z, e, hz⟩ := g2 c hc
    exact ⟨b, o, z, e, (hb.cell (World.block_lt_of_cell? _ _ hz)).trans hz⟩

theorem clone_all (a : Option Addr) (n c : Nat) (A : Nat → Option Addr) (L C : Nat → Nat) (w : World) (h : ArgIs w a n c A L C) (hn : n ≤ 1048576) (hL : ∀ r, r < n → L r ≤ 1048576) :
    Calls Try.prog 17 #[.slice a n c] w (Post17 w n L) := by
  obtain ⟨h1, h2, h3⟩ := h
  cases a with
  | none =>
    obtain ⟨rfl, rfl⟩ := h1 rfl
    exact clone_nil w L
  | some x => exact clone_any x n c A L C w h2 h3 hn hL

/-- What Entries is handed: nil, or a row of slices. -/
def SlIs (w : World) (v : Value) (n : Nat) (L : Nat → Nat) : Prop := (n = 0 ∧ v = .slice none 0 0) ∨ ∃ B, v = .slice (some ⟨B, 0, none⟩) n n ∧ Lens w B n n L
theorem entries_all (v : Value) (n : Nat) (tm : Int) (L : Nat → Nat) (w : World) (hn : n ≤ 1048576) (h : SlIs w v n L) : Calls Try.prog 18 #[v, .int .u64 tm] w (PostE w n L) := by
  rcases h with ⟨rfl, rfl⟩ | ⟨B, rfl, hl⟩
  · exact entries_nil tm L w
  · exact entries_any B n n tm L w hn hl
theorem slIs_below {w w' : World} {B : Nat} {v : Value} {n : Nat} {L : Nat → Nat} (h : SlIs w v n L) (hB : w.heap.size ≤ B) (hb : Below B w w') : SlIs w' v n L := by
  rcases h with h | ⟨g, e, hl⟩
  · exact .inl h
  · exact .inr ⟨g, e, lens_of hl (hb.block _ (by have := lens_lt hl; omega))⟩
theorem post17_sl {w w' : World} {n : Nat} {L : Nat → Nat} {e : Ending} (h : Post17 w n L e w') : ∃ v, e = .returned v ∧ Below w.heap.size w w' ∧ SlIs w' v n L := by
  obtain ⟨hb, ⟨h0, rfl⟩ | ⟨B, _, rfl, hl⟩⟩ := h
  · exact ⟨_, rfl, hb, .inl ⟨h0, rfl⟩⟩
  · exact ⟨_, rfl, hb, .inr ⟨B, rfl, hl⟩⟩

/-- The cells of what appendWithin gave. -/
theorem out_cells {w wr : World} {ge n k g cap : Nat} {L : Nat → Nat} (h : Out w wr ge n k L g cap) : ∃ F : Nat → Value, (∀ j, j < (n + k) * 4 → wr.cell? ⟨g, 0 + j, none⟩ = some (F j)) ∧ ∀ i, i < n + k → Ent4 F i (L i) := by
  obtain ⟨xs, hE, hd⟩ := h
  refine ⟨fun j => xs.getD j undef, fun j hj => ?_, hE.2⟩
  rw [Nat.zero_add]
  rcases hd with ⟨rfl, rfl, rfl, hrow⟩ | ⟨_, hown⟩
  · exact hrow.cell hj
  · rw [hown.cellAt j hj]
    have hjl : j < xs.length := by rw [hE.1]; exact hj
    simp [List.getD, hjl]

/-- The cells of 'more[k:]'. -/
theorem ents_from {w : World} {g m : Nat} {L : Nat → Nat} (h : Ents w g m m L) (k : Nat) : ∃ F : Nat → Value, (∀ j, j < (m - k) * 4 → w.cell? ⟨g, k * 4 + j, none⟩ = some (F j)) ∧ ∀ i, i < m - k → Ent4 F i (L (k + i)) := by
  obtain ⟨f, hf, hE⟩ := h
  refine ⟨fun j => f (k * 4 + j), fun j hj => hf.cell (by omega), fun i hi => ?_⟩
  obtain ⟨p, q, r, a, c, e0, e1, e2, e3⟩ := hE (k + i) (by omega)
  have e : (k + i) * 4 = k * 4 + i * 4 := by omega
  rw [e] at e0 e1 e2 e3
  exact ⟨p, q, r, a, c, e0, e1, e2, e3⟩

theorem sumTo_join (n : Nat) (Le Lm : Nat → Nat) : ∀ k, sumTo (joinL n Le Lm) (n + k) = sumTo Le n + sumTo Lm k
  | 0 => by
    have h : ∀ j, j ≤ n → sumTo (joinL n Le Lm) j = sumTo Le j := by
      intro j
      induction j with
      | zero => intro _; rfl
      | succ j ih =>
        intro hj
        rw [sumTo_succ, sumTo_succ, ih (by omega)]
        unfold joinL
        rw [if_pos (by omega)]
    exact h n (Nat.le_refl _)
  | k + 1 => by
    rw [← Nat.add_assoc, sumTo_succ, sumTo_succ, sumTo_join n Le Lm k]
    unfold joinL
    rw [if_neg (by omega), Nat.add_sub_cancel_left]
    omega

/-- THE PLAIN LAW: where k entries were taken and the next one stopped, nothing more is taken. -/
theorem again_none {n m k : Nat} {Le Lm : Nat → Nat} {mx : Int} (hst : k < m → Stop n Le Lm mx k) {k' : Nat} (hk' : k' ≤ m - k)
    (hns : ∀ i, i < k' → ¬ Stop (n + k) (joinL n Le Lm) (fun i => Lm (k + i)) mx i) : k' = 0 := by
  by_cases h0 : k' = 0
  · exact h0
  · exfalso
    obtain ⟨s1, s2⟩ := hst (by omega)
    refine hns 0 (by omega) ⟨by omega, ?_⟩
    rw [sumTo_join]
    have e : sumTo (fun i => Lm (k + i)) (0 + 1) = Lm k := by simp [sumTo]
    rw [e]
    rw [sumTo_succ] at s2
    omega

theorem below_undrew {B : Nat} {w w' : World} (h : Below B w.drew w') : Below B w w' := ⟨h.os, h.tape, h.output, h.size, h.block⟩

def PostLaw (w : World) (e : Ending) (w' : World) : Prop := e = .returned (.bool true) ∧ Below w.heap.size w w'

set_option maxHeartbeats 400000 in
theorem law_walk (a0 a1 : Option Addr) (n0 c0 n1 c1 : Nat) (mx : Int) (A0 A1 : Nat → Option Addr) (L0 C0 L1 C1 : Nat → Nat) (w : World)
    (h0 : ArgIs w a0 n0 c0 A0 L0 C0) (h1 : ArgIs w a1 n1 c1 A1 L1 C1) :
    Calls Try.prog 8 #[.slice a0 n0 c0, .slice a1 n1 c1, .int .i64 mx] w (PostLaw w) := by
  have H0 : Hid (ArgIs w a0 n0 c0 A0 L0 C0) := h0
  have H1 : Hid (ArgIs w a1 n1 c1 A1 L1 C1) := h1
  clear h0 h1
  go_enter Try.func8, Try.ntmps8
  go_wp2_with fail
  refine (zzBytes_any a0 a1 n0 c0 n1 c1 mx A0 A1 L0 C0 L1 C1 w H0.out.2.1 H1.out.2.1).mono ?_
  rintro e w' ⟨b, rfl, rfl, hb⟩
  cases b with
  | false =>
    go_wp2
    go_ret
    exact ⟨rfl, Below.refl _ _⟩
  | true =>
    obtain ⟨hn0, hn1, hl0, hl1⟩ := hb rfl
    clear hb
    have HL0 : Hid (∀ r, r < n0 → L0 r ≤ 1048576) := hl0
    have HL1 : Hid (∀ r, r < n1 → L1 r ≤ 1048576) := hl1
    clear hl0 hl1
    go_wp2_with fail
    refine (bytesOK_any a0 a1 n0 c0 n1 c1 A0 A1 L0 C0 L1 C1 _ H0.out.2.1 H1.out.2.1).mono ?_
    rintro e w' ⟨b, rfl, rfl⟩
    cases b with
    | false =>
      go_wp2
      go_ret
      exact ⟨rfl, Below.refl _ _⟩
    | true =>
      go_wp2_with fail
      refine (clone_all a0 n0 c0 A0 L0 C0 _ H0.out hn0 HL0.out).mono ?_
      intro e w1 hp
      obtain ⟨v0, rfl, hb1, hs0⟩ := post17_sl hp
      clear hp
      have HB1 : Hid (Below w'.heap.size w' w1) := hb1
      have HS0 : Hid (SlIs w1 v0 n0 L0) := hs0
      clear hb1 hs0
      go_wp2_with fail
      refine (clone_all a1 n1 c1 A1 L1 C1 _ (argIs_below H1.out HB1.out) hn1 HL1.out).mono ?_
      intro e w2 hp
      obtain ⟨v1, rfl, hb2, hs1⟩ := post17_sl hp
      clear hp
      have HB2 : Hid (Below w1.heap.size w1 w2) := hb2
      have HS1 : Hid (SlIs w2 v1 n1 L1) := hs1
      clear hb2 hs1
      go_wp2_with fail
      refine (entries_all v0 n0 1 L0 _ hn0 (slIs_below HS0.out (Nat.le_refl _) HB2.out)).mono ?_
      rintro e w3 ⟨hb3, rfl, he0⟩
      have HB3 : Hid (Below w2.heap.size w2 w3) := hb3
      have HE0 : Hid (Ents w3 w2.heap.size n0 n0 L0) := he0
      clear hb3 he0
      go_wp2_with fail
      refine (entries_all v1 n1 2 L1 _ hn1 (slIs_below HS1.out (Nat.le_refl _) HB3.out)).mono ?_
      rintro e w4 ⟨hb4, rfl, he1⟩
      have HB4 : Hid (Below w3.heap.size w3 w4) := hb4
      have HE1 : Hid (Ents w4 w3.heap.size n1 n1 L1) := he1
      clear hb4 he1
      have HE0' : Hid (Ents w4 w2.heap.size n0 n0 L0) := ents_of HE0.out (HB4.out.block _ (ents_lt HE0.out))
      clear HE0
      go_wp2_with fail
      refine (zzWithin_any w2.heap.size w3.heap.size n0 n1 mx L0 L1 _ (by omega) hn1 HE0'.out HE1.out HL0.out HL1.out).mono ?_
      rintro e w5 ⟨k, g, cap, rfl, hk, hb5, hns, hst, hO⟩
      have HB5 : Hid (Below w4.heap.size w4 w5) := hb5
      have HNS : Hid (∀ i, i < k → ¬ Stop n0 L0 L1 mx i) := hns
      have HST : Hid (k < n1 → Stop n0 L0 L1 mx k) := hst
      have HO : Hid (Out w4 w5 w2.heap.size n0 k (joinL n0 L0 L1) g cap) := hO
      clear hb5 hns hst hO
      have ek : (n0 : Int) + (k : Int) - (n0 : Int) = (k : Int) := by omega
      have d1 : decide ((k : Int) < 0) = false := decide_eq_false (by omega)
      have d2 : decide ((n1 : Int) < (k : Int)) = false := decide_eq_false (by omega)
      have HE5 : Hid (Ents w5 w3.heap.size n1 n1 L1) := ents_of HE1.out (HB5.out.block _ (ents_lt HE1.out))
      obtain ⟨F, hF⟩ := out_cells HO.out
      have HF : Hid ((∀ j, j < (n0 + k) * 4 → w5.cell? ⟨g, 0 + j, none⟩ = some (F j)) ∧ ∀ i, i < n0 + k → Ent4 F i (joinL n0 L0 L1 i)) := hF
      clear hF
      have HJ : Hid (∀ i, i < n0 + k → joinL n0 L0 L1 i ≤ 1048576) := fun i hi => by
        show joinL n0 L0 L1 i ≤ 1048576
        unfold joinL
        split
        · exact HL0.out i (by omega)
        · exact HL1.out (i - n0) (by omega)
      have HR : Hid (∀ i, i < n1 - k → L1 (k + i) ≤ 1048576) := fun i hi => HL1.out (k + i) (by omega)
      have HB : Hid (Below w'.heap.size w' w5) := by
        have s1 := HB1.out.size; have s2 := HB2.out.size; have s3 := HB3.out.size; have s4 := HB4.out.size
        exact (((HB1.out.trans (HB2.out.mono (by omega))).trans (HB3.out.mono (by omega))).trans (HB4.out.mono (by omega))).trans (HB5.out.mono (by omega))
      clear HE1 HB1 HB2 HB3 HB4 HB5 HNS HE0' HL0 HL1 H0 H1 HS0 HS1
      go_wp2_with fail
      by_cases hkn : k = n1
      · clear HST HE5 HR
        subst hkn
        go_region_with (first
          | (go_at_call_of 25 g; refine (cloneEnts_any g 0 (n0 + k) cap F (joinL n0 L0 L1) _ (by omega) ?_ HF.out.2).mono ?_; exact fun j hj => HF.out.1 j hj; rintro e w6 ⟨hb6, rfl, he6⟩; have HB6 : Hid (Below w5.heap.size w5 w6) := below_undrew hb6; have HE6 : Hid (Ents w6 w5.heap.size (n0 + k) (n0 + k) (joinL n0 L0 L1)) := he6; clear hb6 he6)
          | (go_at_call_of 25 (w3.heap.size); refine (cloneEnts_any w3.heap.size 0 0 0 (fun _ => undef) (fun _ => 0) _ (by omega) (fun _ hj => absurd hj (Nat.not_lt_zero _)) (fun _ hj => absurd hj (Nat.not_lt_zero _))).mono ?_; rintro e w7 ⟨hb7, rfl, he7⟩; have HB7 : Hid (Below w6.heap.size w6 w7) := hb7; have HE7 : Hid (Ents w7 w6.heap.size 0 0 (fun _ => 0)) := he7; clear hb7 he7)
          | (go_at_call 19; refine (zzWithin_any w5.heap.size w6.heap.size (n0 + k) 0 mx (joinL n0 L0 L1) (fun _ => 0) _ (by omega) (by omega) (ents_of HE6.out (HB7.out.block _ (ents_lt HE6.out))) HE7.out HJ.out (fun _ hj => absurd hj (Nat.not_lt_zero _))).mono ?_; rintro e w8 ⟨k', g', cap', rfl, hk', hb8, _, _, _⟩; obtain rfl : k' = 0 := (by omega); have HB8 : Hid (Below w7.heap.size w7 w8) := hb8; clear hb8 hk'))
        go_wp2
        go_ret
        have s5 := HB.out.size
        have s6 := HB6.out.size
        have s7 := HB7.out.size
        exact ⟨by simp, ((HB.out.trans (HB6.out.mono s5)).trans (HB7.out.mono (Nat.le_trans s5 s6))).trans (HB8.out.mono (Nat.le_trans s5 (Nat.le_trans s6 s7)))⟩
      · have hkl : k < n1 := by omega
        clear hkn
        obtain ⟨G, hG⟩ := ents_from HE5.out k
        have HG : Hid ((∀ j, j < (n1 - k) * 4 → w5.cell? ⟨w3.heap.size, k * 4 + j, none⟩ = some (G j)) ∧ ∀ i, i < n1 - k → Ent4 G i (L1 (k + i))) := hG
        clear hG
        go_region_with (first
          | (go_at_call_of 25 g; refine (cloneEnts_any g 0 (n0 + k) cap F (joinL n0 L0 L1) _ (by omega) ?_ HF.out.2).mono ?_; exact fun j hj => HF.out.1 j hj; rintro e w6 ⟨hb6, rfl, he6⟩; have HB6 : Hid (Below w5.heap.size w5 w6) := below_undrew hb6; have HE6 : Hid (Ents w6 w5.heap.size (n0 + k) (n0 + k) (joinL n0 L0 L1)) := he6; clear hb6 he6)
          | (go_at_call_of 25 (w3.heap.size); refine (cloneEnts_any w3.heap.size (k * 4) (n1 - k) (n1 - k) G (fun i => L1 (k + i)) _ (by omega) ?_ HG.out.2).mono ?_; exact fun j hj => (HB6.out.cell (World.block_lt_of_cell? _ _ (HG.out.1 j hj))).trans (HG.out.1 j hj); rintro e w7 ⟨hb7, rfl, he7⟩; have HB7 : Hid (Below w6.heap.size w6 w7) := hb7; have HE7 : Hid (Ents w7 w6.heap.size (n1 - k) (n1 - k) (fun i => L1 (k + i))) := he7; clear hb7 he7)
          | (go_at_call 19; refine (zzWithin_any w5.heap.size w6.heap.size (n0 + k) (n1 - k) mx (joinL n0 L0 L1) (fun i => L1 (k + i)) _ (by omega) (by omega) (ents_of HE6.out (HB7.out.block _ (ents_lt HE6.out))) HE7.out HJ.out HR.out).mono ?_; rintro e w8 ⟨k', g', cap', rfl, hk', hb8, hns, _, _⟩; obtain rfl : k' = 0 := again_none HST.out hk' hns; have HB8 : Hid (Below w7.heap.size w7 w8) := hb8; clear hb8 hk' hns))
        go_wp2
        go_ret
        have s5 := HB.out.size
        have s6 := HB6.out.size
        have s7 := HB7.out.size
        exact ⟨by simp, ((HB.out.trans (HB6.out.mono s5)).trans (HB7.out.mono (Nat.le_trans s5 s6))).trans (HB8.out.mono (Nat.le_trans s5 (Nat.le_trans s6 s7)))⟩
end Go.Proofs.Qxb6002676a.sat
