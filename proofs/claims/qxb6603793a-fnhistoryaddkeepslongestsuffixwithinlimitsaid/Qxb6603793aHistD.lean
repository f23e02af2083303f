/-
  Seat b6603793a: the history, plain: its changes, its index, what an add and a drop do to the index.
-/
import Derived.Test.Qxb6603793aHistC
namespace Go.Proofs.Qxb6603793a.hist

structure Chg where
  rev : Int
  key : ByteArray
  val : ByteArray
  lock : ByteArray
  ev : ByteArray
  hold : ByteArray
  tok : Int

/-- What a change weighs. -/
def cost (c : Chg) : Nat := c.key.size + c.val.size + c.lock.size + c.hold.size + 128
def costs : List Chg → Nat
  | [] => 0
  | c :: r => cost c + costs r
theorem costs_append (a b : List Chg) : costs (a ++ b) = costs a + costs b := by
  induction a with
  | nil => simp [costs]
  | cons c r ih => simp [costs, ih]; omega

/-- The positions, from d on, of the changes of a subject. -/
def posOf : Nat → List Chg → ByteArray → ByteArray → List Nat
  | _, [], _, _ => []
  | d, c :: r, k, l => if c.key = k ∧ c.lock = l then d :: posOf (d + 1) r k l else posOf (d + 1) r k l
theorem posOf_snoc (c : Chg) (k l : ByteArray) : ∀ (cs : List Chg) (d : Nat), posOf d (cs ++ [c]) k l = posOf d cs k l ++ (if c.key = k ∧ c.lock = l then [d + cs.length] else [])
  | [], d => by simp [posOf]
  | a :: r, d => by
    have ih := posOf_snoc c k l r (d + 1)
    have e : d + 1 + r.length = d + (a :: r).length := by simp; omega
    rw [e] at ih
    simp only [List.cons_append, posOf]
    rw [ih]
    split <;> rfl
theorem posOf_nil {k l : ByteArray} : ∀ (cs : List Chg) (d : Nat), (∀ c ∈ cs, ¬ (c.key = k ∧ c.lock = l)) → posOf d cs k l = []
  | [], _, _ => rfl
  | a :: r, d, h => by
    rw [posOf, if_neg (h a (by simp))]
    exact posOf_nil r (d + 1) fun c hc => h c (List.mem_cons_of_mem _ hc)
theorem posOf_ne {k l : ByteArray} {c : Chg} (h : c.key = k ∧ c.lock = l) : ∀ (cs : List Chg) (d : Nat), c ∈ cs → posOf d cs k l ≠ []
  | a :: r, d, hm => by
    rw [posOf]
    split
    · simp
    · rcases List.mem_cons.1 hm with rfl | hm
      · exact absurd h (by assumption)
      · exact posOf_ne h r (d + 1) hm

/-- The index S is the index of the changes cs, the first of which is at position d. -/
structure Inv (d : Nat) (cs : List Chg) (S : List Idx) : Prop where
  ps : ∀ (j : Nat) (s : Idx), S[j]? = some s → s.ps = posOf d cs s.k s.l ∧ 0 < s.ps.length
  has : ∀ c ∈ cs, ∃ (j : Nat) (s : Idx), S[j]? = some s ∧ s.k = c.key ∧ s.l = c.lock
  one : ∀ (i j : Nat) (a b : Idx), S[i]? = some a → S[j]? = some b → a.k = b.k → a.l = b.l → i = j

theorem inv_nil : Inv 0 [] [] := ⟨fun j s h => by simp at h, fun c h => by simp at h, fun i j a b h => by simp at h⟩

/-- The add's own turn of the index. -/
def AddRel (S : List Idx) (pos : Nat) (c : Chg) (bef : Int) (S' : List Idx) : Prop :=
  (∃ (j : Nat) (s : Idx), S[j]? = some s ∧ s.k = c.key ∧ s.l = c.lock ∧ S' = S.set j ⟨s.k, s.l, s.ps ++ [pos], s.bef⟩) ∨
  ((∀ s ∈ S, ¬ (s.k = c.key ∧ s.l = c.lock)) ∧ S' = S ++ [⟨c.key, c.lock, [pos], bef⟩])
/-- The drop of the oldest change. -/
def DropRel (S : List Idx) (c : Chg) (S' : List Idx) : Prop :=
  ∃ (j : Nat) (s : Idx), S[j]? = some s ∧ s.k = c.key ∧ s.l = c.lock ∧ ((1 < s.ps.length ∧ S' = S.set j ⟨s.k, s.l, s.ps.tail, c.rev⟩) ∨ (s.ps.length ≤ 1 ∧ S' = S.eraseIdx j))
def DropsRel : List Idx → List Chg → List Idx → Prop
  | S, [], S' => S' = S
  | S, c :: r, S' => ∃ S1, DropRel S c S1 ∧ DropsRel S1 r S'
theorem dropsRel_snoc {c : Chg} {S2 : List Idx} : ∀ {r : List Chg} {S S1 : List Idx}, DropsRel S r S1 → DropRel S1 c S2 → DropsRel S (r ++ [c]) S2
  | [], _, _, h, hd => ⟨S2, by rw [← (show _ = _ from h)]; exact hd, rfl⟩
  | _ :: _, _, _, ⟨T, h1, h2⟩, hd => ⟨T, h1, dropsRel_snoc h2 hd⟩

theorem set_get {S : List Idx} {j : Nat} {x s : Idx} (hj : S[j]? = some s) {i : Nat} {a : Idx} (h : (S.set j x)[i]? = some a) : (i = j ∧ a = x) ∨ (i ≠ j ∧ S[i]? = some a) := by
  rw [List.getElem?_set] at h
  have hjl : j < S.length := (List.getElem?_eq_some_iff.1 hj).1
  by_cases e : j = i
  · rw [if_pos e, if_pos (by omega)] at h
    exact .inl ⟨e.symm, (Option.some.inj h).symm⟩
  · rw [if_neg e] at h
    exact .inr ⟨fun e' => e e'.symm, h⟩
theorem set_at {S : List Idx} {j : Nat} {x s : Idx} (hj : S[j]? = some s) : (S.set j x)[j]? = some x := by
  have hjl : j < S.length := (List.getElem?_eq_some_iff.1 hj).1
  rw [List.getElem?_set, if_pos rfl, if_pos hjl]
theorem set_off {S : List Idx} {j i : Nat} {x : Idx} (h : i ≠ j) : (S.set j x)[i]? = S[i]? := by
  rw [List.getElem?_set, if_neg (fun e => h e.symm)]

theorem inv_add {d : Nat} {cs : List Chg} {S S' : List Idx} {c : Chg} {bef : Int} (h : Inv d cs S) (ha : AddRel S (d + cs.length) c bef S') : Inv d (cs ++ [c]) S' := by
  rcases ha with ⟨j, s, hj, hk, hl, rfl⟩ | ⟨hno, rfl⟩
  · refine ⟨fun i a hi => ?_, fun x hx => ?_, fun i i' a b hi hi' h1 h2 => ?_⟩
    · rcases set_get hj hi with ⟨_, rfl⟩ | ⟨hne, hi⟩
      · obtain ⟨p1, p2⟩ := h.ps j s hj
        refine ⟨?_, by simp⟩
        show s.ps ++ [d + cs.length] = posOf d (cs ++ [c]) s.k s.l
        rw [posOf_snoc, if_pos ⟨hk.symm, hl.symm⟩, p1]
      · obtain ⟨p1, p2⟩ := h.ps i a hi
        refine ⟨?_, p2⟩
        rw [posOf_snoc, if_neg (fun e => hne (h.one i j a s hi hj (e.1.symm.trans hk.symm) (e.2.symm.trans hl.symm))), List.append_nil, p1]
    · rcases List.mem_append.1 hx with hx | hx
      · obtain ⟨i, a, hi, e1, e2⟩ := h.has x hx
        by_cases e : i = j
        · subst e
          rw [hj] at hi
          obtain rfl := Option.some.inj hi
          exact ⟨i, _, set_at hj, e1, e2⟩
        · exact ⟨i, a, by rw [set_off e]; exact hi, e1, e2⟩
      · simp at hx
        subst hx
        exact ⟨j, _, set_at hj, hk, hl⟩
    · rcases set_get hj hi with ⟨e1, rfl⟩ | ⟨e1, hi⟩ <;> rcases set_get hj hi' with ⟨e2, rfl⟩ | ⟨e2, hi'⟩
      · omega
      · exact absurd (h.one j i' s b hj hi' h1 h2) (fun e => e2 e.symm)
      · exact absurd (h.one i j a s hi hj h1 h2) e1
      · exact h.one i i' a b hi hi' h1 h2
  · have hnk : ∀ x ∈ cs, ¬ (x.key = c.key ∧ x.lock = c.lock) := fun x hx e => by
      obtain ⟨i, a, hi, e1, e2⟩ := h.has x hx
      exact hno a (List.mem_of_getElem? hi) ⟨e1.trans e.1, e2.trans e.2⟩
    refine ⟨fun i a hi => ?_, fun x hx => ?_, fun i i' a b hi hi' h1 h2 => ?_⟩
    · rcases getElem?_snoc hi with ⟨_, hi⟩ | ⟨_, rfl⟩
      · obtain ⟨p1, p2⟩ := h.ps i a hi
        refine ⟨?_, p2⟩
        rw [posOf_snoc, if_neg (fun e => hno a (List.mem_of_getElem? hi) ⟨e.1.symm, e.2.symm⟩), List.append_nil, p1]
      · refine ⟨?_, by simp⟩
        rw [posOf_snoc, if_pos ⟨rfl, rfl⟩, posOf_nil cs d hnk]
        rfl
    · rcases List.mem_append.1 hx with hx | hx
      · obtain ⟨i, a, hi, e1, e2⟩ := h.has x hx
        have hil : i < S.length := (List.getElem?_eq_some_iff.1 hi).1
        exact ⟨i, a, by rw [List.getElem?_append_left hil]; exact hi, e1, e2⟩
      · simp at hx
        subst hx
        exact ⟨S.length, ⟨x.key, x.lock, [d + cs.length], bef⟩, by simp, rfl, rfl⟩
    · rcases getElem?_snoc hi with ⟨e1, hi⟩ | ⟨e1, rfl⟩ <;> rcases getElem?_snoc hi' with ⟨e2, hi'⟩ | ⟨e2, rfl⟩
      · exact h.one i i' a b hi hi' h1 h2
      · exact absurd ⟨h1, h2⟩ (hno a (List.mem_of_getElem? hi))
      · exact absurd ⟨h1.symm, h2.symm⟩ (hno b (List.mem_of_getElem? hi'))
      · omega

theorem inv_drop {d : Nat} {cs : List Chg} {S S' : List Idx} {c : Chg} (h : Inv d (c :: cs) S) (hd : DropRel S c S') : Inv (d + 1) cs S' := by
  obtain ⟨j, s, hj, hk, hl, hcase⟩ := hd
  obtain ⟨p1, p2⟩ := h.ps j s hj
  rw [posOf, if_pos ⟨hk.symm, hl.symm⟩] at p1
  have hoff : ∀ i a, i ≠ j → S[i]? = some a → a.ps = posOf (d + 1) cs a.k a.l ∧ 0 < a.ps.length := fun i a hne hi => by
    obtain ⟨q1, q2⟩ := h.ps i a hi
    rw [posOf, if_neg (fun e => hne (h.one i j a s hi hj (e.1.symm.trans hk.symm) (e.2.symm.trans hl.symm)))] at q1
    exact ⟨q1, q2⟩
  rcases hcase with ⟨hlen, rfl⟩ | ⟨hlen, rfl⟩
  · refine ⟨fun i a hi => ?_, fun x hx => ?_, fun i i' a b hi hi' h1 h2 => ?_⟩
    · rcases set_get hj hi with ⟨_, rfl⟩ | ⟨hne, hi⟩
      · refine ⟨?_, by simp; omega⟩
        show s.ps.tail = posOf (d + 1) cs s.k s.l
        rw [p1]
        rfl
      · exact hoff i a hne hi
    · obtain ⟨i, a, hi, e1, e2⟩ := h.has x (List.mem_cons_of_mem _ hx)
      by_cases e : i = j
      · subst e
        rw [hj] at hi
        obtain rfl := Option.some.inj hi
        exact ⟨i, _, set_at hj, e1, e2⟩
      · exact ⟨i, a, by rw [set_off e]; exact hi, e1, e2⟩
    · rcases set_get hj hi with ⟨e1, rfl⟩ | ⟨e1, hi⟩ <;> rcases set_get hj hi' with ⟨e2, rfl⟩ | ⟨e2, hi'⟩
      · omega
      · exact absurd (h.one j i' s b hj hi' h1 h2) (fun e => e2 e.symm)
      · exact absurd (h.one i j a s hi hj h1 h2) e1
      · exact h.one i i' a b hi hi' h1 h2
  · have kS : ∀ i : Nat, (S.eraseIdx j)[i]? = S[if i < j then i else i + 1]? := fun i => by rw [List.getElem?_eraseIdx]; split <;> rfl
    have hempty : posOf (d + 1) cs s.k s.l = [] := by
      rw [p1] at hlen
      simp at hlen
      exact hlen
    refine ⟨fun i a hi => ?_, fun x hx => ?_, fun i i' a b hi hi' h1 h2 => ?_⟩
    · rw [kS] at hi
      exact hoff _ a (by split <;> omega) hi
    · obtain ⟨i, a, hi, e1, e2⟩ := h.has x (List.mem_cons_of_mem _ hx)
      have hne : i ≠ j := fun e => by
        subst e
        rw [hj] at hi
        obtain rfl := Option.some.inj hi
        exact posOf_ne ⟨e1.symm, e2.symm⟩ cs (d + 1) hx hempty
      refine ⟨if i < j then i else i - 1, a, ?_, e1, e2⟩
      rw [kS]
      have e : (if (if i < j then i else i - 1) < j then (if i < j then i else i - 1) else (if i < j then i else i - 1) + 1) = i := by
        by_cases hij : i < j
        · rw [if_pos hij, if_pos hij]
        · rw [if_neg hij, if_neg (by omega)]; omega
      rw [e]
      exact hi
    · rw [kS] at hi hi'
      have := h.one _ _ a b hi hi' h1 h2
      split at this <;> split at this <;> omega
end Go.Proofs.Qxb6603793a.hist
