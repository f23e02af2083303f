/-
  Seat b6603793a: the history's index in memory, entry by entry.
-/
import Derived.Test.Qxb6603793aHistB
namespace Go.Proofs.Qxb6603793a.hist
open Go.RowKit Go.Deep

/-- A subject's entry, plain: its two names, the positions of its changes kept, the revision before them. -/
structure Idx where
  k : ByteArray
  l : ByteArray
  ps : List Nat
  bef : Int

def ints (ps : List Nat) : List Value := ps.map fun q => .int .i64 (q : Nat)
/-- What the map holds of such an entry. -/
def ElemIs (w : World) (v : Value) (ps : List Nat) (bef : Int) (g : Nat) : Prop := ∃ va, v = .agg #[va, .int .u64 bef] ∧ SlIs w 3 1 va ps.length (ints ps) g

/-- Block bm is the index S; entry i's positions lie in block G i. -/
def MapG (w : World) (bm H0 : Nat) (S : List Idx) (G : Nat → Nat) : Prop :=
  ∃ I : List Ent, MapIs w bm I ∧ I.length = S.length ∧ (∀ (i : Nat) (e : Ent) (s : Idx), I[i]? = some e → S[i]? = some s → e.k = s.k ∧ e.l = s.l ∧ ElemIs w e.val s.ps s.bef (G i)) ∧
    (∀ i j, i < S.length → j < S.length → G i = G j → i = j) ∧ ∀ i, i < S.length → H0 ≤ G i

theorem elem_of {w w' : World} {v : Value} {ps : List Nat} {bef : Int} {g : Nat} (h : ElemIs w v ps bef g) (e : w'.heap[g]? = w.heap[g]?) : ElemIs w' v ps bef g := by
  obtain ⟨va, h1, h2⟩ := h
  exact ⟨va, h1, slIs_of h2 e⟩
theorem elem_lt {w : World} {v : Value} {ps : List Nat} {bef : Int} {g : Nat} (h : ElemIs w v ps bef g) : g < w.heap.size := by
  obtain ⟨va, h1, h2⟩ := h
  exact slIs_lt h2
/-- Block b is a row of cells whose elements are no ints. -/
def OtherRow (w : World) (b : Nat) : Prop := ∃ N f E, w.rowIs b E N f ∧ E ≠ 3
theorem other_ne_map {w : World} {b bm : Nat} {I : List Ent} (h : OtherRow w b) (hm : MapIs w bm I) : bm ≠ b := by
  rintro rfl
  obtain ⟨N, f, E, ⟨c, h1, _⟩, _⟩ := h
  obtain ⟨es, clock, h2, _⟩ := hm
  rw [h1] at h2
  cases h2
theorem other_ne_elem {w : World} {b g : Nat} {v : Value} {ps : List Nat} {bef : Int} (h : OtherRow w b) (hm : ElemIs w v ps bef g) : g ≠ b := by
  rintro rfl
  obtain ⟨N, f, E, ⟨c, h1, _⟩, hE⟩ := h
  obtain ⟨va, _, off, cap, N', f', _, ⟨c', h2, _⟩, _⟩ := hm
  rw [h1] at h2
  simp only [Option.some.injEq, Obj.cells.injEq] at h2
  exact hE h2.2.1
theorem map_ne_elem {w : World} {bm g : Nat} {I : List Ent} {v : Value} {ps : List Nat} {bef : Int} (h : MapIs w bm I) (hm : ElemIs w v ps bef g) : g ≠ bm := by
  rintro rfl
  obtain ⟨es, clock, h1, _⟩ := h
  obtain ⟨va, _, off, cap, N', f', _, ⟨c', h2, _⟩, _⟩ := hm
  rw [h1] at h2
  cases h2

theorem mapG_lt {w : World} {bm H0 : Nat} {S : List Idx} {G : Nat → Nat} (h : MapG w bm H0 S G) : bm < w.heap.size := by
  obtain ⟨I, h1, _⟩ := h
  exact mapIs_lt h1
/-- The index is as it was, where its blocks are. -/
theorem mapG_same {w w' : World} {bm H0 : Nat} {S : List Idx} {G : Nat → Nat} (h : MapG w bm H0 S G) (hb : w'.heap[bm]? = w.heap[bm]?) (hg : ∀ i, i < S.length → w'.heap[G i]? = w.heap[G i]?) : MapG w' bm H0 S G := by
  obtain ⟨I, h1, h2, h3, h4, h5⟩ := h
  refine ⟨I, mapIs_of h1 hb, h2, fun i e s hi hs => ?_, h4, h5⟩
  obtain ⟨a, b, c⟩ := h3 i e s hi hs
  exact ⟨a, b, elem_of c (hg i (List.getElem?_eq_some_iff.1 hs).1)⟩
theorem mapG_elem {w : World} {bm H0 : Nat} {S : List Idx} {G : Nat → Nat} (h : MapG w bm H0 S G) {i : Nat} (hi : i < S.length) : ∃ v ps bef, ElemIs w v ps bef (G i) := by
  obtain ⟨I, h1, h2, h3, h4, h5⟩ := h
  have e1 : I[i]? = some I[i] := List.getElem?_eq_getElem (by omega)
  have e2 : S[i]? = some S[i] := List.getElem?_eq_getElem hi
  exact ⟨_, _, _, (h3 i _ _ e1 e2).2.2⟩
theorem mapG_glt {w : World} {bm H0 : Nat} {S : List Idx} {G : Nat → Nat} (h : MapG w bm H0 S G) {i : Nat} (hi : i < S.length) : G i < w.heap.size := by
  obtain ⟨v, ps, bef, he⟩ := mapG_elem h hi
  exact elem_lt he
theorem mapG_below {w w' : World} {bm H0 : Nat} {S : List Idx} {G : Nat → Nat} (h : MapG w bm H0 S G) (hb : Below w.heap.size w w') : MapG w' bm H0 S G :=
  mapG_same h (hb.block _ (mapG_lt h)) (fun _ hi => hb.block _ (mapG_glt h hi))
/-- A write to a row of other cells. -/
theorem mapG_other {w w' : World} {bm H0 b : Nat} {S : List Idx} {G : Nat → Nat} (h : MapG w bm H0 S G) (ho : OtherRow w b) (hg : w.grownBy w' (some b)) : MapG w' bm H0 S G := by
  refine mapG_same h (hg.block _ (mapG_lt h) ?_) (fun i hi => hg.block _ (mapG_glt h hi) ?_)
  · obtain ⟨I, h1, _⟩ := h
    exact fun e => other_ne_map ho h1 (Option.some.inj e)
  · obtain ⟨v, ps, bef, he⟩ := mapG_elem h hi
    exact fun e => other_ne_elem ho he (Option.some.inj e)

/-- Looked up: no such subject. -/
theorem mapG_none {w : World} {bm H0 : Nat} {S : List Idx} {G : Nat → Nat} (h : MapG w bm H0 S G) {k l : ByteArray} (hk : k.size ≤ maxLen) (hl : l.size ≤ maxLen) (hno : ∀ s ∈ S, ¬ (s.k = k ∧ s.l = l)) (c : Bool) (w' : World) (hw : w'.heap[bm]? = w.heap[bm]?) :
    Sem.run Try.prog (Instr.lookup 62 (.map (some bm)) (sub k l) c) w' = .ok (if c then .tuple #[.agg #[.slice none 0 0, .int .u64 0], .bool false] else .agg #[.slice none 0 0, .int .u64 0]) w' := by
  obtain ⟨I, h1, h2, h3, h4, h5⟩ := h
  refine look_none h1 hk hl (fun e hm hh => ?_) c w' hw
  obtain ⟨i, hi⟩ := List.getElem?_of_mem hm
  have hil : i < I.length := (List.getElem?_eq_some_iff.1 hi).1
  have e2 : S[i]? = some S[i] := List.getElem?_eq_getElem (by omega)
  obtain ⟨a, b, _⟩ := h3 i e _ hi e2
  exact hno S[i] (List.getElem_mem (by omega)) ⟨a.symm.trans hh.1, b.symm.trans hh.2⟩
/-- Looked up: the entry at place j. -/
theorem mapG_some {w : World} {bm H0 : Nat} {S : List Idx} {G : Nat → Nat} (h : MapG w bm H0 S G) {j : Nat} {s : Idx} (hj : S[j]? = some s) : ∃ va, SlIs w 3 1 va s.ps.length (ints s.ps) (G j) ∧
    ∀ (c : Bool) (w' : World), w'.heap[bm]? = w.heap[bm]? → Sem.run Try.prog (Instr.lookup 62 (.map (some bm)) (sub s.k s.l) c) w' = .ok (if c then .tuple #[.agg #[va, .int .u64 s.bef], .bool true] else .agg #[va, .int .u64 s.bef]) w' := by
  obtain ⟨I, h1, h2, h3, h4, h5⟩ := h
  have hjl : j < S.length := (List.getElem?_eq_some_iff.1 hj).1
  have e1 : I[j]? = some I[j] := List.getElem?_eq_getElem (by omega)
  obtain ⟨a, b, va, hv, hs⟩ := h3 j _ _ e1 hj
  refine ⟨va, hs, fun c w' hw => ?_⟩
  rw [← a, ← b, ← hv]
  exact look_some h1 e1 c w' hw

theorem getElem?_snoc {α : Type} {l : List α} {x : α} {i : Nat} {a : α} (h : (l ++ [x])[i]? = some a) : (i < l.length ∧ l[i]? = some a) ∨ (i = l.length ∧ a = x) := by
  by_cases hil : i < l.length
  · rw [List.getElem?_append_left hil] at h; exact .inl ⟨hil, h⟩
  · rw [List.getElem?_append_right (by omega)] at h
    have h0 : i - l.length = 0 := by
      have := (List.getElem?_eq_some_iff.1 h).1
      simp at this; omega
    rw [h0] at h
    simp at h
    exact .inr ⟨by omega, h.symm⟩

/-- A new entry is stored, its positions in block g. -/
theorem mapG_new {w : World} {bm H0 : Nat} {S : List Idx} {G : Nat → Nat} (h : MapG w bm H0 S G) {k l : ByteArray} (hk : k.size ≤ maxLen) (hl : l.size ≤ maxLen) (hno : ∀ s ∈ S, ¬ (s.k = k ∧ s.l = l)) {va : Value} {ps : List Nat} {bef : Int} {g : Nat}
    (hs : SlIs w 3 1 va ps.length (ints ps) g) (hg : ∀ i, i < S.length → G i ≠ g) (hg0 : H0 ≤ g) :
    ∃ w' G', Sem.run Try.prog (Instr.mapUpdate 62 (.map (some bm)) (sub k l) (.agg #[va, .int .u64 bef])) w = .ok () w' ∧ MapG w' bm H0 (S ++ [⟨k, l, ps, bef⟩]) G' ∧ w.grownBy w' (some bm) := by
  obtain ⟨I, h1, h2, h3, h4, h5⟩ := h
  have hno' : ∀ e ∈ I, ¬ (e.k = k ∧ e.l = l) := fun e hm hh => by
    obtain ⟨i, hi⟩ := List.getElem?_of_mem hm
    have hil : i < I.length := (List.getElem?_eq_some_iff.1 hi).1
    have e2 : S[i]? = some S[i] := List.getElem?_eq_getElem (by omega)
    obtain ⟨a, b, _⟩ := h3 i e _ hi e2
    exact hno S[i] (List.getElem_mem (by omega)) ⟨a.symm.trans hh.1, b.symm.trans hh.2⟩
  obtain ⟨w', hr, hm, hgr⟩ := put_new h1 hk hl hno' (.agg #[va, .int .u64 bef])
  refine ⟨w', fun i => if i < S.length then G i else g, hr, ⟨_, hm, by simp [h2], fun i e s hi hsi => ?_, fun i j hi hj hij => ?_, fun i _ => ?_⟩, hgr⟩
  · rcases getElem?_snoc hi with ⟨a1, hi⟩ | ⟨a1, rfl⟩ <;> rcases getElem?_snoc hsi with ⟨b1, hsi⟩ | ⟨b1, rfl⟩
    · obtain ⟨q1, q2, q3⟩ := h3 i e s hi hsi
      dsimp only
      rw [if_pos b1]
      exact ⟨q1, q2, elem_of q3 (hgr.block _ (elem_lt q3) (fun e => map_ne_elem h1 q3 (Option.some.inj e)))⟩
    · omega
    · omega
    · dsimp only
      rw [if_neg (by omega)]
      have he : ElemIs w (.agg #[va, .int .u64 bef]) ps bef g := ⟨va, rfl, hs⟩
      exact ⟨rfl, rfl, elem_of he (hgr.block _ (elem_lt he) (fun e => map_ne_elem h1 he (Option.some.inj e)))⟩
  · simp only [List.length_append, List.length_cons, List.length_nil] at hi hj
    simp only at hij
    by_cases a1 : i < S.length <;> by_cases b1 : j < S.length
    · rw [if_pos a1, if_pos b1] at hij; exact h4 i j a1 b1 hij
    · rw [if_pos a1, if_neg b1] at hij; exact absurd hij (hg i a1)
    · rw [if_neg a1, if_pos b1] at hij; exact absurd hij.symm (hg j b1)
    · omega
  · simp only
    split
    · exact h5 i (by assumption)
    · exact hg0
/-- The entry at place j is stored anew: only ITS OWN array may have turned since. -/
theorem mapG_set {w w1 : World} {bm H0 : Nat} {S : List Idx} {G : Nat → Nat} (h : MapG w bm H0 S G) {j : Nat} {s : Idx} (hj : S[j]? = some s) (hgr : w.grownBy w1 (some (G j))) {va : Value} {ps : List Nat} {bef : Int} {g : Nat}
    (hs : SlIs w1 3 1 va ps.length (ints ps) g) (hg : g = G j ∨ w.heap.size ≤ g) (hH : H0 ≤ w.heap.size) :
    ∃ w' G', Sem.run Try.prog (Instr.mapUpdate 62 (.map (some bm)) (sub s.k s.l) (.agg #[va, .int .u64 bef])) w1 = .ok () w' ∧ MapG w' bm H0 (S.set j ⟨s.k, s.l, ps, bef⟩) G' ∧ w1.grownBy w' (some bm) := by
  have hgl := fun i hi => mapG_glt h (i := i) hi
  obtain ⟨I, h1, h2, h3, h4, h5⟩ := h
  have hjl : j < S.length := (List.getElem?_eq_some_iff.1 hj).1
  have e1 : I[j]? = some I[j] := List.getElem?_eq_getElem (by omega)
  obtain ⟨a, b, hel⟩ := h3 j _ _ e1 hj
  have h1' : MapIs w1 bm I := mapIs_of h1 (hgr.block _ (mapIs_lt h1) (fun e => map_ne_elem h1 hel (Option.some.inj e).symm))
  obtain ⟨w', hr, hm, hgr'⟩ := put_old h1' e1 (.agg #[va, .int .u64 bef])
  rw [a, b] at hr hm
  have helN : ElemIs w1 (.agg #[va, .int .u64 bef]) ps bef g := ⟨va, rfl, hs⟩
  refine ⟨w', fun i => if i = j then g else G i, hr, ⟨_, hm, by simp [h2], fun i e t hi hti => ?_, fun i i' hi hi' hij => ?_, fun i hi => ?_⟩, hgr'⟩
  · rw [List.getElem?_set] at hi hti
    by_cases hij : j = i
    · subst hij
      rw [if_pos rfl, if_pos (by omega)] at hi hti
      obtain rfl := Option.some.inj hi
      obtain rfl := Option.some.inj hti
      dsimp only
      rw [if_pos rfl]
      exact ⟨rfl, rfl, elem_of helN (hgr'.block _ (elem_lt helN) (fun e => map_ne_elem h1' helN (Option.some.inj e)))⟩
    · rw [if_neg hij] at hi hti
      obtain ⟨q1, q2, q3⟩ := h3 i e t hi hti
      have hil : i < S.length := (List.getElem?_eq_some_iff.1 hti).1
      have q4 : ElemIs w1 e.val t.ps t.bef (G i) := elem_of q3 (hgr.block _ (elem_lt q3) (fun e => hij (h4 j i hjl hil (Option.some.inj e).symm)))
      dsimp only
      rw [if_neg (fun e => hij e.symm)]
      exact ⟨q1, q2, elem_of q4 (hgr'.block _ (elem_lt q4) (fun e => map_ne_elem h1' q4 (Option.some.inj e)))⟩
  · rw [List.length_set] at hi hi'
    simp only at hij
    by_cases a1 : i = j <;> by_cases b1 : i' = j
    · omega
    · rw [if_pos a1, if_neg b1] at hij
      rcases hg with hg | hg
      · rw [hg] at hij; exact absurd (h4 j i' hjl hi' hij) (fun e => b1 e.symm)
      · have := hgl i' hi'; omega
    · rw [if_neg a1, if_pos b1] at hij
      rcases hg with hg | hg
      · rw [hg] at hij; exact absurd (h4 i j hi hjl hij) a1
      · have := hgl i hi; omega
    · rw [if_neg a1, if_neg b1] at hij; exact h4 i i' hi hi' hij
  · rw [List.length_set] at hi
    simp only
    split
    · rcases hg with hg | hg
      · rw [hg]; exact h5 j hjl
      · omega
    · exact h5 i hi
/-- The entry at place j is struck. -/
theorem mapG_del {w : World} {bm H0 : Nat} {S : List Idx} {G : Nat → Nat} (h : MapG w bm H0 S G) {j : Nat} {s : Idx} (hj : S[j]? = some s) (ty : TypeId) :
    ∃ w' G', Sem.run Try.prog (Builtin.delete_ #[62, 74] ty #[.map (some bm), sub s.k s.l]) w = .ok (.tuple #[]) w' ∧ MapG w' bm H0 (S.eraseIdx j) G' ∧ w.grownBy w' (some bm) := by
  obtain ⟨I, h1, h2, h3, h4, h5⟩ := h
  have hjl : j < S.length := (List.getElem?_eq_some_iff.1 hj).1
  have e1 : I[j]? = some I[j] := List.getElem?_eq_getElem (by omega)
  obtain ⟨a, b, _⟩ := h3 j _ _ e1 hj
  obtain ⟨w', hr, hm, hgr⟩ := del_old h1 e1 ty
  rw [a, b] at hr
  have kI : ∀ i : Nat, (I.eraseIdx j)[i]? = I[if i < j then i else i + 1]? := fun i => by rw [List.getElem?_eraseIdx]; split <;> rfl
  have kS : ∀ i : Nat, (S.eraseIdx j)[i]? = S[if i < j then i else i + 1]? := fun i => by rw [List.getElem?_eraseIdx]; split <;> rfl
  have hlen : (S.eraseIdx j).length = S.length - 1 := List.length_eraseIdx_of_lt hjl
  refine ⟨w', fun i => G (if i < j then i else i + 1), hr, ⟨_, hm, by rw [hlen, List.length_eraseIdx_of_lt (by omega), h2], fun i e t hi hti => ?_, fun i i' hi hi' hij => ?_, fun i hi => ?_⟩, hgr⟩
  · rw [kI] at hi
    rw [kS] at hti
    obtain ⟨q1, q2, q3⟩ := h3 _ e t hi hti
    exact ⟨q1, q2, elem_of q3 (hgr.block _ (elem_lt q3) (fun e => map_ne_elem h1 q3 (Option.some.inj e)))⟩
  · rw [hlen] at hi hi'
    have := h4 _ _ (by split <;> omega) (by split <;> omega) hij
    split at this <;> split at this <;> omega
  · rw [hlen] at hi
    exact h5 _ (by split <;> omega)
end Go.Proofs.Qxb6603793a.hist
