/-
  Seat b6603793a: plain: under one limit the changes kept are the longest run within it; the revision before a subject's first kept change.
-/
import Derived.Test.Qxb6603793aHistP
namespace Go.Proofs.Qxb6603793a.hist

section
variable {c : Nat → Chg}
theorem costs_seg_mono_r (s : Nat) : ∀ {m n : Nat}, m ≤ n → costs (seg c s m) ≤ costs (seg c s n) := by
  intro m n h
  induction h with
  | refl => exact Nat.le_refl _
  | step hm ih =>
    rename_i n
    by_cases h : s ≤ n
    · rw [costs_seg_snoc h]; omega
    · rw [seg_nil (c := c) (s := s) (n := m) (by have : m ≤ n := hm; omega)]; simp [costs]
theorem costs_seg_mono_l (n : Nat) : ∀ {s t : Nat}, s ≤ t → costs (seg c t n) ≤ costs (seg c s n) := by
  intro s t h
  induction h with
  | refl => exact Nat.le_refl _
  | step hm ih =>
    rename_i t
    by_cases h : t < n
    · rw [costs_seg_cons h] at ih; show costs (seg c (t + 1) n) ≤ _; omega
    · show costs (seg c (t + 1) n) ≤ _
      rw [seg_nil (c := c) (s := t + 1) (n := n) (by omega)]; simp [costs]

/-- d is the first change kept after step t. -/
structure KF (c : Nat → Chg) (lim : Int) (t d : Nat) : Prop where
  le : d ≤ t
  need : ∀ i, i < d → lim < (costs (seg c i (t + 1)) : Nat)
  fits : (costs (seg c d (t + 1)) : Nat) ≤ lim ∨ d = t

theorem kf_mono {lim : Int} {i j a b : Nat} (h : i ≤ j) (ha : KF c lim i a) (hb : KF c lim j b) : a ≤ b := by
  by_cases hab : a ≤ b
  · exact hab
  · have h1 := ha.need b (by omega)
    have h2 := costs_seg_mono_r (c := c) b (show i + 1 ≤ j + 1 by omega)
    have h3 := ha.le
    rcases hb.fits with h4 | h4
    · omega
    · omega
theorem kf_unique {lim : Int} {t a b : Nat} (ha : KF c lim t a) (hb : KF c lim t b) : a = b :=
  Nat.le_antisymm (kf_mono (Nat.le_refl _) ha hb) (kf_mono (Nat.le_refl _) hb ha)
/-- The scan back from t: after the changes m .. t were summed within the limit. -/
theorem kf_stop {lim : Int} {t m : Nat} (hm : m ≤ t) (h : lim < (costs (seg c m (t + 1)) : Nat)) (hf : (costs (seg c (m + 1) (t + 1)) : Nat) ≤ lim ∨ m = t) : KF c lim t (if m + 1 ≤ t then m + 1 else t) := by
  by_cases e : m + 1 ≤ t
  · rw [if_pos e]
    refine ⟨e, fun i hi => ?_, ?_⟩
    · have := costs_seg_mono_l (c := c) (t + 1) (show i ≤ m by omega)
      omega
    · rcases hf with hf | hf
      · exact .inl hf
      · omega
  · rw [if_neg e]
    refine ⟨Nat.le_refl _, fun i hi => ?_, .inr rfl⟩
    have := costs_seg_mono_l (c := c) (t + 1) (show i ≤ m by omega)
    omega
theorem kf_zero {lim : Int} {t : Nat} (h : (costs (seg c 0 (t + 1)) : Nat) ≤ lim) : KF c lim t 0 := ⟨Nat.zero_le _, fun i hi => by omega, .inl h⟩
theorem kf_exists (lim : Int) (t : Nat) : ∃ d, KF c lim t d := by
  by_cases h0 : ((costs (seg c 0 (t + 1)) : Nat) : Int) ≤ lim
  · exact ⟨0, kf_zero h0⟩
  · have key : ∀ k, k ≤ t → (((costs (seg c (t - k) (t + 1)) : Nat) : Int) ≤ lim) ∨ ∃ d, KF c lim t d := by
      intro k
      induction k with
      | zero =>
        intro _
        by_cases h : ((costs (seg c (t - 0) (t + 1)) : Nat) : Int) ≤ lim
        · exact .inl h
        · exact .inr ⟨_, kf_stop (m := t) (Nat.le_refl _) (by simpa using h) (.inr rfl)⟩
      | succ k ih =>
        intro hk
        rcases ih (by omega) with h | h
        · by_cases h' : ((costs (seg c (t - (k + 1)) (t + 1)) : Nat) : Int) ≤ lim
          · exact .inl h'
          · refine .inr ⟨_, kf_stop (m := t - (k + 1)) (by omega) (by omega) (.inl ?_)⟩
            have e : t - (k + 1) + 1 = t - k := by omega
            rw [e]
            exact h
        · exact .inr h
    rcases key t (Nat.le_refl _) with h | h
    · rw [Nat.sub_self] at h
      exact absurd h h0
    · exact h
/-- The first change kept after step t, as a function. -/
noncomputable def kept (c : Nat → Chg) (lim : Int) (t : Nat) : Nat := Classical.choose (kf_exists (c := c) lim t)
theorem kept_kf (lim : Int) (t : Nat) : KF c lim t (kept c lim t) := Classical.choose_spec (kf_exists (c := c) lim t)
/-- .. after t steps (none: 0). -/
noncomputable def from_ (c : Nat → Chg) (lim : Int) : Nat → Nat
  | 0 => 0
  | t + 1 => kept c lim t
theorem from_le (lim : Int) : ∀ t, from_ c lim t ≤ t
  | 0 => Nat.le_refl _
  | t + 1 => Nat.le_succ_of_le (kept_kf lim t).le
theorem from_mono (lim : Int) : ∀ {s t : Nat}, s ≤ t → from_ c lim s ≤ from_ c lim t
  | 0, _, _ => Nat.zero_le _
  | s + 1, 0, h => by omega
  | s + 1, t + 1, h => kf_mono (by omega) (kept_kf lim s) (kept_kf lim t)
/-- A step of add leaves just what the scan leaves. -/
theorem step_kept {lim : Int} {t d' : Nat} (h1 : d' ≤ t) (h2 : ∀ i, from_ c lim t ≤ i → i < d' → lim < (costs (seg c i (t + 1)) : Nat)) (h3 : (costs (seg c d' (t + 1)) : Nat) ≤ lim ∨ d' = t) : d' = kept c lim t := by
  refine kf_unique (c := c) (lim := lim) (t := t) ⟨h1, fun i hi => ?_, h3⟩ (kept_kf lim t)
  by_cases hf : from_ c lim t ≤ i
  · exact h2 i hf hi
  · cases t with
    | zero => omega
    | succ t =>
      have h4 := (kept_kf (c := c) lim t).need i (by simp only [from_] at hf; omega)
      have h5 := costs_seg_mono_r (c := c) i (show t + 1 ≤ t + 1 + 1 by omega)
      omega

/-- The subjects of changes q and p are the same. -/
def Sm (c : Nat → Chg) (q p : Nat) : Prop := (c q).key = (c p).key ∧ (c q).lock = (c p).lock
/-- v is the revision before change p: that of its subject's latest earlier change q, if q was still there when p came; else the one handed with p. -/
def Want (c : Nat → Chg) (lim : Int) (B : Nat → Int) (p : Nat) (v : Int) : Prop :=
  (∃ q, q < p ∧ Sm c q p ∧ (∀ j, q < j → j < p → ¬ Sm c j p) ∧ from_ c lim p ≤ q ∧ v = (c q).rev) ∨
  ((∀ q, q < p → Sm c q p → q < from_ c lim p) ∧ v = B p)
/-- Every entry's revision before is the wanted one. -/
def BI (c : Nat → Chg) (lim : Int) (B : Nat → Int) (S : List Idx) : Prop := ∀ e ∈ S, ∃ p r, e.ps = p :: r ∧ Want c lim B p e.bef
theorem bi_nil {lim : Int} {B : Nat → Int} : BI c lim B [] := fun e h => by simp at h

theorem bi_add {lim : Int} {B : Nat → Int} {S S1 : List Idx} {t : Nat} (hI : Inv (from_ c lim t) (seg c (from_ c lim t) t) S) (hB : BI c lim B S) (ha : AddRel S t (c t) (B t) S1) : BI c lim B S1 := by
  rcases ha with ⟨j, s, hj, hk, hl, rfl⟩ | ⟨hno, rfl⟩
  · intro e he
    obtain ⟨i, hi⟩ := List.getElem?_of_mem he
    rcases set_get hj hi with ⟨_, rfl⟩ | ⟨_, hi⟩
    · obtain ⟨p, r, h1, h2⟩ := hB s (List.mem_of_getElem? hj)
      exact ⟨p, r ++ [t], by simp [h1], h2⟩
    · exact hB e (List.mem_of_getElem? hi)
  · intro e he
    rcases List.mem_append.1 he with he | he
    · exact hB e he
    · simp at he
      subst he
      refine ⟨t, [], rfl, .inr ⟨fun q hq hs => ?_, rfl⟩⟩
      by_cases h : q < from_ c lim t
      · exact h
      · obtain ⟨j, s, hj, e1, e2⟩ := hI.has (c q) (mem_seg (by omega) hq)
        exact absurd ⟨e1.trans hs.1, e2.trans hs.2⟩ (hno s (List.mem_of_getElem? hj))
/-- The second position of a run, and what lies between. -/
theorem posOf_second {k l : ByteArray} {d n q : Nat} {r : List Nat} (h : posOf d (seg c d n) k l = d :: q :: r) (hd : d < n) : d < q ∧ q < n ∧ ((c q).key = k ∧ (c q).lock = l) ∧ ∀ j, d < j → j < q → ¬ ((c j).key = k ∧ (c j).lock = l) := by
  rw [posOf_seg_cons hd] at h
  have h' : posOf (d + 1) (seg c (d + 1) n) k l = q :: r := by
    split at h
    · simpa using h
    · rename_i hne
      rw [List.nil_append] at h
      have := (posOf_head (c := c) (n - (d + 1)) (d + 1) rfl h).1
      omega
  obtain ⟨a, b, e, f⟩ := posOf_head (c := c) (n - (d + 1)) (d + 1) rfl h'
  exact ⟨by omega, b, e, fun j h1 h2 => f j (by omega) h2⟩
theorem bi_drop {lim : Int} {B : Nat → Int} {S S1 : List Idx} {d t : Nat} (hd : d < t + 1) (hf : from_ c lim t ≤ d) (hI : Inv d (seg c d (t + 1)) S) (hB : BI c lim B S) (h : DropRel S (c d) S1) : BI c lim B S1 := by
  obtain ⟨j, s, hj, hk, hl, hcase⟩ := h
  obtain ⟨p1, p2⟩ := hI.ps j s hj
  rcases hcase with ⟨hlen, rfl⟩ | ⟨hlen, rfl⟩
  · intro e he
    obtain ⟨i, hi⟩ := List.getElem?_of_mem he
    rcases set_get hj hi with ⟨_, rfl⟩ | ⟨_, hi⟩
    · match hp : s.ps, hlen with
      | [], hlen => simp at hlen
      | [a], hlen => simp at hlen
      | a :: q :: r, _ =>
        rw [hp] at p1
        obtain ⟨h1, h2, h3, h4⟩ := posOf_head (c := c) (t + 1 - d) d rfl p1.symm
        have ea : a = d := by
          by_cases e : a = d
          · exact e
          · exact absurd ⟨hk.symm, hl.symm⟩ (h4 d (Nat.le_refl _) (by omega))
        subst ea
        obtain ⟨q1, q2, q3, q4⟩ := posOf_second (c := c) p1.symm hd
        refine ⟨q, r, by simp, .inl ⟨a, q1, ⟨by rw [q3.1, hk], by rw [q3.2, hl]⟩, fun i h1 h2 hs => q4 i h1 h2 ⟨hs.1.trans q3.1, hs.2.trans q3.2⟩, ?_, rfl⟩⟩
        exact Nat.le_trans (from_mono lim (show q ≤ t by omega)) hf
    · exact hB e (List.mem_of_getElem? hi)
  · exact fun e he => hB e ((List.eraseIdx_sublist _ _).subset he)
theorem bi_drops {lim : Int} {B : Nat → Int} {S2 : List Idx} {t : Nat} : ∀ (k : Nat) {d : Nat} {S : List Idx}, d + k ≤ t + 1 → from_ c lim t ≤ d → Inv d (seg c d (t + 1)) S → BI c lim B S → DropsRel S ((seg c d (t + 1)).take k) S2 → BI c lim B S2
  | 0, d, S, _, _, _, hB, h => by
    rw [List.take_zero] at h
    rw [show S2 = S from h]
    exact hB
  | k + 1, d, S, hk, hf, hI, hB, h => by
    rw [seg_cons (by omega), List.take_succ_cons] at h
    obtain ⟨S1, h1, h2⟩ := h
    refine bi_drops k (d := d + 1) (S := S1) (by omega) (by omega) ?_ (bi_drop (by omega) hf hI hB h1) h2
    rw [seg_cons (by omega)] at hI
    exact inv_drop hI h1
end
/-- A whole step. -/
theorem bi_step {c : Nat → Chg} {lim : Int} {B : Nat → Int} {S S1 S2 : List Idx} {t : Nat} (hI : Inv (from_ c lim t) (seg c (from_ c lim t) t) S) (hB : BI c lim B S) (ha : AddRel S t (c t) (B t) S1) (hd : DropsRel S1 ((seg c (from_ c lim t) (t + 1)).take (from_ c lim (t + 1) - from_ c lim t)) S2) : BI c lim B S2 := by
  have hle := from_le (c := c) lim t
  have hle1 := from_le (c := c) lim (t + 1)
  have hmono := from_mono (c := c) lim (show t ≤ t + 1 by omega)
  refine bi_drops _ (by omega) (Nat.le_refl _) ?_ (bi_add hI hB ha) hd
  have e : from_ c lim t + (seg c (from_ c lim t) t).length = t := by rw [seg_len]; omega
  rw [← seg_snoc hle]
  exact inv_add hI (by rw [e]; exact ha)
/-- The wanted revision of the first kept change of a subject is what the index holds. -/
theorem bi_at {c : Nat → Chg} {K L : Nat → ByteArray} {lim : Int} {B : Nat → Int} {S : List Idx} {s n i : Nat} (hc : Subj c K L) (hI : Inv s (seg c s n) S) (hB : BI c lim B S) (h1 : s ≤ i) (h2 : i < n) (h : firstK K L s i) :
    ∃ (j : Nat) (e : Idx), S[j]? = some e ∧ e.k = K i ∧ e.l = L i ∧ Want c lim B i e.bef := by
  obtain ⟨j, e, hj, e1, e2, hp⟩ := entry_of hc hI h1 h2
  rw [posOf_seg_split _ _ h1 (by omega : i ≤ n), first_none hc h, List.nil_append, posOf_seg_cons h2, if_pos (hc i)] at hp
  obtain ⟨p, r, hp', hw⟩ := hB e (List.mem_of_getElem? hj)
  rw [hp] at hp'
  simp at hp'
  obtain ⟨rfl, _⟩ := hp'
  exact ⟨j, e, hj, e1, e2, hw⟩
end Go.Proofs.Qxb6603793a.hist
