/-
  Seat b6603793a: plain: runs of changes; the positions in an index; how many subjects it holds.
-/
import Derived.Test.Qxb6603793aHistI
namespace Go.Proofs.Qxb6603793a.hist

/-- Changes s .. n-1. -/
def seg (c : Nat → Chg) (s n : Nat) : List Chg := ((List.range n).map c).drop s
section
variable {c : Nat → Chg}
theorem seg_len (s n : Nat) : (seg c s n).length = n - s := by simp [seg]
theorem seg_get {s n i : Nat} (h : s + i < n) : (seg c s n)[i]? = some (c (s + i)) := by simp [seg, h]
theorem seg_snoc {s n : Nat} (h : s ≤ n) : seg c s n ++ [c n] = seg c s (n + 1) := by
  unfold seg
  rw [List.range_succ, List.map_append, List.drop_append_of_le_length (by simpa using h)]
  rfl
theorem seg_drop (s n k : Nat) : (seg c s n).drop k = seg c (s + k) n := by unfold seg; rw [List.drop_drop]
theorem seg_nil {s n : Nat} (h : n ≤ s) : seg c s n = [] := by
  apply List.eq_nil_of_length_eq_zero
  rw [seg_len]; omega
theorem seg_cons {s n : Nat} (h : s < n) : seg c s n = c s :: seg c (s + 1) n := by
  have h1 : (seg c s n)[0]? = some (c s) := seg_get (i := 0) h
  have h2 := drop_cons h1
  rw [List.drop_zero, seg_drop] at h2
  exact h2
theorem seg_mem {s n : Nat} {x : Chg} (h : x ∈ seg c s n) : ∃ j, s ≤ j ∧ j < n ∧ x = c j := by
  obtain ⟨i, hi⟩ := List.getElem?_of_mem h
  have hl : i < (seg c s n).length := (List.getElem?_eq_some_iff.1 hi).1
  rw [seg_len] at hl
  rw [seg_get (by omega)] at hi
  exact ⟨s + i, by omega, by omega, (Option.some.inj hi).symm⟩
theorem mem_seg {s n j : Nat} (h1 : s ≤ j) (h2 : j < n) : c j ∈ seg c s n := by
  have h := seg_get (c := c) (s := s) (n := n) (i := j - s) (by omega)
  have e : s + (j - s) = j := by omega
  rw [e] at h
  exact List.mem_of_getElem? h
theorem costs_seg_snoc {s n : Nat} (h : s ≤ n) : costs (seg c s (n + 1)) = costs (seg c s n) + cost (c n) := by
  rw [← seg_snoc h, costs_append]
  simp [costs]
theorem costs_seg_cons {s n : Nat} (h : s < n) : costs (seg c s n) = cost (c s) + costs (seg c (s + 1) n) := by
  rw [seg_cons h]; rfl
theorem costs_seg_le {B : Nat} (hB : ∀ j, cost (c j) ≤ B) (s : Nat) : ∀ n, costs (seg c s n) ≤ n * B
  | 0 => by rw [seg_nil (Nat.zero_le _)]; simp [costs]
  | n + 1 => by
    by_cases h : s ≤ n
    · rw [costs_seg_snoc h]
      have := costs_seg_le hB s n
      have := hB n
      have : (n + 1) * B = n * B + B := Nat.succ_mul n B
      omega
    · rw [seg_nil (by omega)]; simp [costs]
theorem posOf_seg_cons {s n : Nat} (h : s < n) (k l : ByteArray) : posOf s (seg c s n) k l = (if (c s).key = k ∧ (c s).lock = l then [s] else []) ++ posOf (s + 1) (seg c (s + 1) n) k l := by
  rw [seg_cons h, posOf]
  split <;> simp
theorem posOf_seg_split {s n : Nat} (k l : ByteArray) : ∀ {j : Nat}, s ≤ j → j ≤ n → posOf s (seg c s n) k l = posOf s (seg c s j) k l ++ posOf j (seg c j n) k l := by
  intro j hj
  induction hj with
  | refl => intro _; rw [seg_nil (Nat.le_refl s)]; simp [posOf]
  | step hm ih =>
    rename_i m
    intro hn
    rw [ih (by omega), posOf_seg_cons (s := m) (by omega), ← seg_snoc hm, posOf_snoc, seg_len, List.append_assoc]
    have e : s + (m - s) = m := by have : s ≤ m := hm; omega
    rw [e]
theorem posOf_len (k l : ByteArray) : ∀ (cs : List Chg) (d : Nat), (posOf d cs k l).length ≤ cs.length
  | [], d => by simp [posOf]
  | x :: r, d => by
    have := posOf_len k l r (d + 1)
    rw [posOf]
    split <;> simp <;> omega
theorem posOf_head {k l : ByteArray} {n : Nat} : ∀ (m s : Nat), n - s = m → ∀ {q : Nat} {r : List Nat}, posOf s (seg c s n) k l = q :: r → s ≤ q ∧ q < n ∧ ((c q).key = k ∧ (c q).lock = l) ∧ ∀ j, s ≤ j → j < q → ¬ ((c j).key = k ∧ (c j).lock = l)
  | 0, s, hm, q, r, h => by rw [seg_nil (by omega)] at h; simp [posOf] at h
  | m + 1, s, hm, q, r, h => by
    rw [posOf_seg_cons (by omega)] at h
    by_cases e : (c s).key = k ∧ (c s).lock = l
    · rw [if_pos e] at h
      simp at h
      obtain ⟨rfl, _⟩ := h
      exact ⟨Nat.le_refl _, by omega, e, fun j h1 h2 => by omega⟩
    · rw [if_neg e, List.nil_append] at h
      obtain ⟨q1, q2, q3, q4⟩ := posOf_head m (s + 1) (by omega) h
      exact ⟨by omega, q2, q3, fun j h1 h2 => by
        by_cases ej : j = s
        · rw [ej]; exact e
        · exact q4 j (by omega) h2⟩
end

theorem len_le_of_mem {α : Type} [DecidableEq α] : ∀ (l1 l2 : List α), l1.Nodup → (∀ x ∈ l1, x ∈ l2) → l1.length ≤ l2.length
  | [], l2, _, _ => Nat.zero_le _
  | a :: r, l2, hn, hm => by
    obtain ⟨h1, h2⟩ := List.nodup_cons.1 hn
    have ha : a ∈ l2 := hm a (by simp)
    have := len_le_of_mem r (l2.erase a) h2 (fun x hx => by
      have hne : x ≠ a := fun e => h1 (e ▸ hx)
      exact (List.mem_erase_of_ne hne).2 (hm x (List.mem_cons_of_mem _ hx)))
    have hl := List.length_erase_of_mem ha
    have : 0 < l2.length := List.length_pos_of_mem ha
    simp
    omega

open Classical in
/-- The first changes of their subjects among s .. s+m-1. -/
noncomputable def firsts (K L : Nat → ByteArray) (s : Nat) : Nat → List Nat
  | 0 => []
  | m + 1 => firsts K L s m ++ (if firstK K L s (s + m) then [s + m] else [])
theorem firsts_mem {K L : Nat → ByteArray} {s q : Nat} : ∀ {m : Nat}, q ∈ firsts K L s m ↔ s ≤ q ∧ q < s + m ∧ firstK K L s q
  | 0 => by simp [firsts]; omega
  | m + 1 => by
    have ih := firsts_mem (K := K) (L := L) (s := s) (q := q) (m := m)
    rw [firsts, List.mem_append, ih]
    constructor
    · rintro (⟨h1, h2, h3⟩ | h)
      · exact ⟨h1, by omega, h3⟩
      · split at h
        · simp at h; subst h; exact ⟨by omega, by omega, by assumption⟩
        · simp at h
    · rintro ⟨h1, h2, h3⟩
      by_cases e : q = s + m
      · subst e; exact .inr (by rw [if_pos h3]; simp)
      · exact .inl ⟨h1, by omega, h3⟩
theorem firsts_nodup {K L : Nat → ByteArray} {s : Nat} : ∀ m, (firsts K L s m).Nodup
  | 0 => by simp [firsts]
  | m + 1 => by
    rw [firsts, List.nodup_append]
    refine ⟨firsts_nodup m, by split <;> simp, fun a ha b hb e => ?_⟩
    have h1 := (firsts_mem.1 ha).2.1
    split at hb
    · simp at hb; omega
    · simp at hb
theorem firsts_yes {K L : Nat → ByteArray} {s i : Nat} (hs : s ≤ i) (h : firstK K L s i) : (firsts K L s (i + 1 - s)).length = (firsts K L s (i - s)).length + 1 := by
  have e : i + 1 - s = (i - s) + 1 := by omega
  have e2 : s + (i - s) = i := by omega
  rw [e, firsts, e2, if_pos h]
  simp
theorem firsts_no {K L : Nat → ByteArray} {s i : Nat} (hs : s ≤ i) (h : ¬ firstK K L s i) : (firsts K L s (i + 1 - s)).length = (firsts K L s (i - s)).length := by
  have e : i + 1 - s = (i - s) + 1 := by omega
  have e2 : s + (i - s) = i := by omega
  rw [e, firsts, e2, if_neg h]
  simp

/-- The changes' subjects are K's and L's. -/
def Subj (c : Nat → Chg) (K L : Nat → ByteArray) : Prop := ∀ j, (c j).key = K j ∧ (c j).lock = L j
theorem same_iff {K L : Nat → ByteArray} {i j : Nat} : same K L i j = true ↔ K i = K j ∧ L i = L j := by simp [same]
theorem same_no {K L : Nat → ByteArray} {i j : Nat} : same K L i j = false ↔ ¬ (K i = K j ∧ L i = L j) := by
  rw [← same_iff]; cases same K L i j <;> simp
section
variable {c : Nat → Chg} {K L : Nat → ByteArray} {s n : Nat} {S : List Idx}
/-- Ahead of a first change: none. -/
theorem first_none (hc : Subj c K L) {i : Nat} (h : firstK K L s i) : posOf s (seg c s i) (K i) (L i) = [] :=
  posOf_nil _ _ fun x hx => by
    obtain ⟨j, h1, h2, rfl⟩ := seg_mem hx
    have := same_no.1 (h j h1 h2)
    rw [(hc j).1, (hc j).2]
    exact fun e => this ⟨e.1.symm, e.2.symm⟩
/-- A kept change's subject is in the index, with all its positions. -/
theorem entry_of (hc : Subj c K L) (hI : Inv s (seg c s n) S) {i : Nat} (h1 : s ≤ i) (h2 : i < n) : ∃ (j : Nat) (e : Idx), S[j]? = some e ∧ e.k = K i ∧ e.l = L i ∧ e.ps = posOf s (seg c s n) (K i) (L i) := by
  obtain ⟨j, e, hj, e1, e2⟩ := hI.has (c i) (mem_seg h1 h2)
  rw [(hc i).1] at e1
  rw [(hc i).2] at e2
  refine ⟨j, e, hj, e1, e2, ?_⟩
  rw [(hI.ps j e hj).1, e1, e2]
/-- As many entries as first changes. -/
theorem index_len (hc : Subj c K L) (hI : Inv s (seg c s n) S) : S.length = (firsts K L s (n - s)).length := by
  have hd : ∀ (j : Nat) (e : Idx), S[j]? = some e → ∃ q r, e.ps = q :: r ∧ s ≤ q ∧ q < n ∧ K q = e.k ∧ L q = e.l ∧ firstK K L s q := fun j e hj => by
    obtain ⟨h1, h2⟩ := hI.ps j e hj
    match hp : e.ps with
    | [] => rw [hp] at h2; simp at h2
    | q :: r =>
      rw [hp] at h1
      obtain ⟨q1, q2, q3, q4⟩ := posOf_head (n - s) s rfl h1.symm
      rw [(hc q).1, (hc q).2] at q3
      refine ⟨q, r, rfl, q1, q2, q3.1, q3.2, fun j' a b => same_no.2 fun e' => q4 j' a b ?_⟩
      rw [(hc j').1, (hc j').2]
      exact ⟨e'.1.symm.trans q3.1, e'.2.symm.trans q3.2⟩
  have hlen : S.length = (S.map fun e => e.ps.headD 0).length := by simp
  rw [hlen]
  apply Nat.le_antisymm
  · refine len_le_of_mem _ _ ?_ fun x hx => ?_
    · rw [List.nodup_iff_pairwise_ne, List.pairwise_iff_getElem]
      intro i j hi hj hij he
      simp at hi hj
      have e1 : S[i]? = some S[i] := List.getElem?_eq_getElem hi
      have e2 : S[j]? = some S[j] := List.getElem?_eq_getElem hj
      obtain ⟨q, r, h1, _, _, h3, h4, _⟩ := hd i _ e1
      obtain ⟨q', r', h1', _, _, h3', h4', _⟩ := hd j _ e2
      simp [h1, h1'] at he
      subst he
      have := hI.one i j _ _ e1 e2 (h3.symm.trans h3') (h4.symm.trans h4')
      omega
    · obtain ⟨e, he, rfl⟩ := List.mem_map.1 hx
      obtain ⟨j, hj⟩ := List.getElem?_of_mem he
      obtain ⟨q, r, h1, h2, h3, _, _, h6⟩ := hd j e hj
      rw [h1]
      exact firsts_mem.2 ⟨h2, by simp; omega, h6⟩
  · refine len_le_of_mem _ _ (firsts_nodup _) fun x hx => ?_
    obtain ⟨h1, h2, h3⟩ := firsts_mem.1 hx
    obtain ⟨j, e, hj, _, _, hp⟩ := entry_of hc hI h1 (by omega)
    rw [posOf_seg_split _ _ h1 (by omega : x ≤ n), first_none hc h3, List.nil_append, posOf_seg_cons (by omega), if_pos (hc x)] at hp
    exact List.mem_map.2 ⟨e, List.mem_of_getElem? hj, by rw [hp]; rfl⟩
/-- The position at which a change of i's subject stands in the entry. -/
theorem entry_at (hc : Subj c K L) {i j : Nat} (h1 : s ≤ j) (h2 : j < n) (h : same K L i j = true) : (posOf s (seg c s n) (K i) (L i))[(posOf s (seg c s j) (K i) (L i)).length]? = some j ∧ posOf s (seg c s (j + 1)) (K i) (L i) = posOf s (seg c s j) (K i) (L i) ++ [j] := by
  have hm : (c j).key = K i ∧ (c j).lock = L i := by rw [(hc j).1, (hc j).2]; exact ⟨(same_iff.1 h).1.symm, (same_iff.1 h).2.symm⟩
  constructor
  · rw [posOf_seg_split _ _ h1 (by omega : j ≤ n), posOf_seg_cons h2, if_pos hm]
    simp
  · rw [← seg_snoc h1, posOf_snoc, if_pos hm, seg_len]
    congr 2
    omega
theorem entry_skip (hc : Subj c K L) {i j : Nat} (h1 : s ≤ j) (h : same K L i j = false) : posOf s (seg c s (j + 1)) (K i) (L i) = posOf s (seg c s j) (K i) (L i) := by
  have hm : ¬ ((c j).key = K i ∧ (c j).lock = L i) := by rw [(hc j).1, (hc j).2]; exact fun e => same_no.1 h ⟨e.1.symm, e.2.symm⟩
  rw [← seg_snoc h1, posOf_snoc, if_neg hm, List.append_nil]
end
end Go.Proofs.Qxb6603793a.hist
