/-
  Seat b6603793a: the map's own laws: its keys (structs of two strings), look-up, store, delete, as run equations over a list of entries.
-/
import Derived.Test.Qxb6603793aRows
import Derived.WalkKit
import Derived.ProofKit
import Derived.Below
import Derived.Deep.OwnRows
import Derived.WalkSpells
import Derived.Maps.Keyed
import Derived.Lib.SmallJoins
namespace Go.Proofs.Qxb6603793a.hist
open Go.RowKit Go.Deep
open Go.WideShapes Go.ChangeShapes
open Go.ChangeMaps (setBlock)

theorem laidOut : laidOutB Try.prog = true := by kernel_rfl
theorem row74 : (74 : TypeId) < Try.prog.types.size := of_decide_eq_true (by kernel_rfl)
theorem wide74 : (match Try.prog.underlying 74 with | some (.array _ _) | some (.struct _) => true | _ => false) = true := by kernel_rfl
theorem deep74 : Try.prog.keyTypeAt (Try.prog.types.size + 1) 74 = true := by kernel_rfl
theorem law74 : Maps.Keyed Try.prog 74 := Maps.Keyed.of_law (deep_law_laid laidOut (m := 2) (by omega) row74 (by kernel_rfl) wide74)
theorem cells74 : Try.prog.cellsOf 74 = 2 := by kernel_rfl
theorem isStruct74 : ∃ fs, Try.prog.underlying 74 = some (.struct fs) := ⟨_, Try.underlying74⟩
theorem formed74 {xs : Array Value} (h : xs.size = 2) : (Value.agg xs).formed Try.prog 74 = true := by
  obtain ⟨fs, hu⟩ := isStruct74
  simp [Value.formed, hu, cells74, h]

/-- A subject as a value. -/
def sub (k l : ByteArray) : Value := .agg #[.string k, .string l]
theorem sub_inj {k l k' l' : ByteArray} (h : sub k l = sub k' l') : k = k' ∧ l = l' := by
  simp [sub] at h
  exact h

theorem key_sub (k l : ByteArray) (hk : k.size ≤ maxLen) (hl : l.size ≤ maxLen) : ∃ lit, keyOf Try.prog 74 (sub k l) = some lit := by
  have h := Joins.shut_agg2 (H := Unit) (enc := fun _ => ()) (P := Try.prog) (w := default) (base := 0) (spare := fun _ => true) (held := true) (v0 := .string k) (v1 := .string l) (y0 := (.lit (.string k.data.toList), [])) (y1 := (.lit (.string l.data.toList), [])) Try.underlying74 (by kernel_rfl) cells74
    ⟨1, by simp [DataW.trod, Try.underlying9, hk]⟩ ⟨1, by simp [DataW.trod, Try.underlying9, hl]⟩
  exact ⟨_, (keyOf_asKey deep74 wide74 (formed74 rfl) h).1⟩

/-- An entry: the subject's two names, the element. -/
structure Ent where
  k : ByteArray
  l : ByteArray
  val : Value

def entPair (e : Ent) : Value × Value := (sub e.k e.l, e.val)
/-- No subject twice. -/
def Apart (I : List Ent) : Prop := ∀ (i j : Nat) (a b : Ent), I[i]? = some a → I[j]? = some b → a.k = b.k → a.l = b.l → i = j
def Sized (I : List Ent) : Prop := ∀ e ∈ I, e.k.size ≤ maxLen ∧ e.l.size ≤ maxLen
/-- The map's own entries are just these, in this order. -/
def EntsAre (es : Array MapEntry) (I : List Ent) : Prop := es.toList.map (fun x : MapEntry => (x.key, x.val)) = I.map entPair
/-- Block b is a map with just these entries. -/
def MapIs (w : World) (b : Nat) (I : List Ent) : Prop :=
  ∃ es clock, w.heap[b]? = some (.map es clock) ∧ EntsAre es I ∧ Sized I ∧ Apart I

theorem mapIs_of {w w' : World} {b : Nat} {I : List Ent} (h : MapIs w b I) (e : w'.heap[b]? = w.heap[b]?) : MapIs w' b I := by
  obtain ⟨es, clock, h1, h2⟩ := h
  exact ⟨es, clock, e.trans h1, h2⟩
theorem mapIs_lt {w : World} {b : Nat} {I : List Ent} (h : MapIs w b I) : b < w.heap.size := by
  obtain ⟨es, clock, h1, _⟩ := h
  exact (Array.getElem?_eq_some_iff.1 h1).1

theorem ents_get {es : Array MapEntry} {I : List Ent} (he : EntsAre es I) (j : Nat) : (es.toList[j]?).map (fun x : MapEntry => (x.key, x.val)) = (I[j]?).map entPair := by
  rw [← List.getElem?_map, he, List.getElem?_map]

/-- What the map finds at a subject: nothing, or the entry at place j. -/
theorem find_sub {es : Array MapEntry} {I : List Ent} (w : World) (he : EntsAre es I) (hs : Sized I) (k l : ByteArray) (hk : k.size ≤ maxLen) (hl : l.size ≤ maxLen) :
    ((Instr.findKey 74 (sub k l) es.toList).run Try.prog w = .ok none w ∧ ∀ e ∈ I, ¬ (e.k = k ∧ e.l = l)) ∨
    ∃ (j : Nat) (e : Ent), (Instr.findKey 74 (sub k l) es.toList).run Try.prog w = .ok (some (j, e.val)) w ∧ I[j]? = some e ∧ e.k = k ∧ e.l = l ∧ (es[j]?).map (·.key) = some (sub k l) := by
  obtain ⟨lit, hlit⟩ := key_sub k l hk hl
  have hget := ents_get he
  have hall : ∀ x ∈ es.toList, ∃ l, keyOf Try.prog 74 x.key = some l := fun x hx => by
    obtain ⟨j, hj⟩ := List.getElem?_of_mem hx
    have := hget j
    rw [hj] at this
    simp only [Option.map_some] at this
    obtain ⟨e, hje, hee⟩ := Option.map_eq_some_iff.1 this.symm
    have hkx : sub e.k e.l = x.key := (Prod.mk.inj hee).1
    obtain ⟨a, b⟩ := hs e (List.mem_of_getElem? hje)
    rw [← hkx]
    exact key_sub _ _ a b
  rcases law74.find w hlit es.toList hall with ⟨h1, h2⟩ | ⟨j, x, h1, h2, h3⟩
  · refine .inl ⟨h1, fun e hm hh => ?_⟩
    obtain ⟨j, hj⟩ := List.getElem?_of_mem hm
    have := hget j
    rw [hj] at this
    simp only [Option.map_some, Option.map_eq_some_iff] at this
    obtain ⟨x, hx, hxe⟩ := this
    have hkx : x.key = sub e.k e.l := (Prod.mk.inj hxe).1
    refine h2 x (List.mem_of_getElem? hx) ?_
    rw [hkx, hh.1, hh.2]
  · have h4 := hget j
    rw [h2] at h4
    simp only [Option.map_some] at h4
    obtain ⟨e, hje, hee⟩ := Option.map_eq_some_iff.1 h4.symm
    obtain ⟨e1, e2⟩ := Prod.mk.inj hee
    rw [h3] at e1
    obtain ⟨ek, el⟩ := sub_inj e1
    refine .inr ⟨j, e, by rw [h1, e2], hje, ek, el, ?_⟩
    have h5 : es[j]? = some x := by simpa using h2
    rw [h5, Option.map_some, h3]

theorem find_none {es : Array MapEntry} {I : List Ent} (w : World) (he : EntsAre es I) (hs : Sized I) {k l : ByteArray} (hk : k.size ≤ maxLen) (hl : l.size ≤ maxLen) (hno : ∀ e ∈ I, ¬ (e.k = k ∧ e.l = l)) :
    (Instr.findKey 74 (sub k l) es.toList).run Try.prog w = .ok none w := by
  rcases find_sub w he hs k l hk hl with ⟨h1, _⟩ | ⟨j, e, _, g2, g3, g4, _⟩
  · exact h1
  · exact absurd ⟨g3, g4⟩ (hno e (List.mem_of_getElem? g2))
theorem find_some {es : Array MapEntry} {I : List Ent} (w : World) (he : EntsAre es I) (hs : Sized I) (ha : Apart I) {j : Nat} {e : Ent} (hj : I[j]? = some e) :
    (Instr.findKey 74 (sub e.k e.l) es.toList).run Try.prog w = .ok (some (j, e.val)) w ∧ (es[j]?).map (·.key) = some (sub e.k e.l) := by
  obtain ⟨hk, hl⟩ := hs e (List.mem_of_getElem? hj)
  rcases find_sub w he hs e.k e.l hk hl with ⟨_, h2⟩ | ⟨j', e', g1, g2, g3, g4, g5⟩
  · exact absurd ⟨rfl, rfl⟩ (h2 e (List.mem_of_getElem? hj))
  · obtain rfl := ha j' j e' e g2 hj g3 g4
    rw [hj] at g2
    obtain rfl := Option.some.inj g2
    exact ⟨g1, g5⟩

/-- 'm[k]', 'v, ok := m[k]': no entry. -/
theorem look_none {w : World} {b : Nat} {I : List Ent} (h : MapIs w b I) {k l : ByteArray} (hk : k.size ≤ maxLen) (hl : l.size ≤ maxLen) (hno : ∀ e ∈ I, ¬ (e.k = k ∧ e.l = l)) (c : Bool) (w' : World) (hw : w'.heap[b]? = w.heap[b]?) :
    Sem.run Try.prog (Instr.lookup 62 (.map (some b)) (sub k l) c) w' = .ok (if c then .tuple #[.agg #[.slice none 0 0, .int .u64 0], .bool false] else .agg #[.slice none 0 0, .int .u64 0]) w' := by
  obtain ⟨es, clock, hb, he, hs, ha⟩ := h
  obtain ⟨lit, hlit⟩ := key_sub k l hk hl
  simp [Instr.lookup, run_underlying Try.underlying62, MapKept.run_getObj_map (hw.trans hb), law74.check w' _ hlit, find_none w' he hs hk hl hno, Result.andThen]
/-- .. an entry. -/
theorem look_some {w : World} {b : Nat} {I : List Ent} (h : MapIs w b I) {j : Nat} {e : Ent} (hj : I[j]? = some e) (c : Bool) (w' : World) (hw : w'.heap[b]? = w.heap[b]?) :
    Sem.run Try.prog (Instr.lookup 62 (.map (some b)) (sub e.k e.l) c) w' = .ok (if c then .tuple #[e.val, .bool true] else e.val) w' := by
  obtain ⟨es, clock, hb, he, hs, ha⟩ := h
  obtain ⟨hk, hl⟩ := hs e (List.mem_of_getElem? hj)
  obtain ⟨lit, hlit⟩ := key_sub e.k e.l hk hl
  simp [Instr.lookup, run_underlying Try.underlying62, MapKept.run_getObj_map (hw.trans hb), law74.check w' _ hlit, (find_some w' he hs ha hj).1, Result.andThen]

theorem heap_setBlock (w : World) (b : Nat) (o : Obj) (h : b < w.heap.size) : (setBlock w b o).heap[b]? = some o := by simp [setBlock, h]
theorem heap_setBlock_other (w : World) (b j : Nat) (o : Obj) (h : j ≠ b) : (setBlock w b o).heap[j]? = w.heap[j]? := by
  simp only [setBlock, Array.getElem?_setIfInBounds]
  rw [if_neg (fun e => h e.symm)]
theorem grown_setBlock (w : World) (b : Nat) (o : Obj) : w.grownBy (setBlock w b o) (some b) := ⟨rfl, rfl, rfl, by simp [setBlock], fun k _ hk => heap_setBlock_other _ _ _ _ (fun e => hk (by rw [e]))⟩

/-- 'm[k] = v': a new entry. -/
theorem put_new {w : World} {b : Nat} {I : List Ent} (h : MapIs w b I) {k l : ByteArray} (hk : k.size ≤ maxLen) (hl : l.size ≤ maxLen) (hno : ∀ e ∈ I, ¬ (e.k = k ∧ e.l = l)) (v : Value) :
    ∃ w', Sem.run Try.prog (Instr.mapUpdate 62 (.map (some b)) (sub k l) v) w = .ok () w' ∧ MapIs w' b (I ++ [⟨k, l, v⟩]) ∧ w.grownBy w' (some b) := by
  have hlt := mapIs_lt h
  obtain ⟨es, clock, hb, he, hs, ha⟩ := h
  obtain ⟨lit, hlit⟩ := key_sub k l hk hl
  refine ⟨setBlock w b (.map (es.push ⟨sub k l, v, clock⟩) (clock + 1)), ?_, ⟨_, _, heap_setBlock _ _ _ hlt, ?_, ?_, ?_⟩, grown_setBlock _ _ _⟩
  · simp [Instr.mapUpdate, run_underlying Try.underlying62, MapKept.run_getObj_map hb, law74.check w false hlit, find_none w he hs hk hl hno, MapKept.run_setObj_map _ hb, Result.andThen, setBlock]
  · unfold EntsAre at he ⊢
    simp [he, entPair]
  · intro e hm
    rcases List.mem_append.1 hm with hm | hm
    · exact hs e hm
    · simp at hm; subst hm; exact ⟨hk, hl⟩
  · intro i j a c hi hj h1 h2
    have key : ∀ (i : Nat) a, (I ++ [⟨k, l, v⟩])[i]? = some a → (I[i]? = some a) ∨ (i = I.length ∧ a.k = k ∧ a.l = l) := fun i a hi => by
      by_cases hil : i < I.length
      · rw [List.getElem?_append_left hil] at hi; exact .inl hi
      · rw [List.getElem?_append_right (by omega)] at hi
        have : i - I.length = 0 := by
          have := (List.getElem?_eq_some_iff.1 hi).1
          simp at this; omega
        rw [this] at hi
        simp at hi
        subst hi
        exact .inr ⟨by omega, rfl, rfl⟩
    rcases key i a hi with hi | ⟨hi, ai, bi⟩ <;> rcases key j c hj with hj | ⟨hj, aj, bj⟩
    · exact ha i j a c hi hj h1 h2
    · exact absurd ⟨h1.trans aj, h2.trans bj⟩ (hno a (List.mem_of_getElem? hi))
    · exact absurd ⟨h1.symm.trans ai, h2.symm.trans bi⟩ (hno c (List.mem_of_getElem? hj))
    · omega
/-- .. an entry turned. -/
theorem put_old {w : World} {b : Nat} {I : List Ent} (h : MapIs w b I) {j : Nat} {e : Ent} (hj : I[j]? = some e) (v : Value) :
    ∃ w', Sem.run Try.prog (Instr.mapUpdate 62 (.map (some b)) (sub e.k e.l) v) w = .ok () w' ∧ MapIs w' b (I.set j ⟨e.k, e.l, v⟩) ∧ w.grownBy w' (some b) := by
  have hlt := mapIs_lt h
  obtain ⟨es, clock, hb, he, hs, ha⟩ := h
  obtain ⟨hk, hl⟩ := hs e (List.mem_of_getElem? hj)
  obtain ⟨lit, hlit⟩ := key_sub e.k e.l hk hl
  obtain ⟨f1, f2⟩ := find_some w he hs ha hj
  obtain ⟨x, hx, hxk⟩ := Option.map_eq_some_iff.1 f2
  have hget : ∀ (i : Nat) a, (I.set j ⟨e.k, e.l, v⟩)[i]? = some a → ∃ a', I[i]? = some a' ∧ a'.k = a.k ∧ a'.l = a.l := fun i a hi => by
    rw [List.getElem?_set] at hi
    by_cases hij : j = i
    · subst hij
      rw [if_pos rfl] at hi
      split at hi
      · obtain rfl := Option.some.inj hi
        exact ⟨e, hj, rfl, rfl⟩
      · cases hi
    · rw [if_neg hij] at hi
      exact ⟨a, hi, rfl, rfl⟩
  refine ⟨setBlock w b (.map (es.modify j fun y => { y with key := sub e.k e.l, val := v }) clock), ?_, ⟨_, _, heap_setBlock _ _ _ hlt, ?_, ?_, ?_⟩, grown_setBlock _ _ _⟩
  · simp [Instr.mapUpdate, run_underlying Try.underlying62, MapKept.run_getObj_map hb, law74.check w false hlit, f1, hx, hxk, law74.stays w hlit, MapKept.run_setObj_map _ hb, Result.andThen, setBlock]
  · unfold EntsAre
    apply List.ext_getElem?
    intro i
    have hgi := ents_get he i
    rw [List.getElem?_map, List.getElem?_map, List.getElem?_set]
    simp only [Array.toList_modify, List.getElem?_modify]
    by_cases hij : j = i
    · subst hij
      have hx' : es.toList[j]? = some x := by simpa using hx
      have hjl : j < I.length := (List.getElem?_eq_some_iff.1 hj).1
      simp [hx', hjl, entPair]
    · simp only [if_neg hij]
      cases hes : es.toList[i]? with
      | none => rw [hes] at hgi; simpa using hgi
      | some y => rw [hes] at hgi; simpa using hgi
  · intro a hm
    obtain ⟨i, hi⟩ := List.getElem?_of_mem hm
    obtain ⟨a', h1, h2, h3⟩ := hget i a hi
    rw [← h2, ← h3]
    exact hs a' (List.mem_of_getElem? h1)
  · intro i i' a c hi hi' h1 h2
    obtain ⟨a', g1, g2, g3⟩ := hget i a hi
    obtain ⟨c', q1, q2, q3⟩ := hget i' c hi'
    exact ha i i' a' c' g1 q1 (g2.trans (h1.trans q2.symm)) (g3.trans (h2.trans q3.symm))
/-- 'delete(m, k)': the entry at place j. -/
theorem del_old {w : World} {b : Nat} {I : List Ent} (h : MapIs w b I) {j : Nat} {e : Ent} (hj : I[j]? = some e) (ty : TypeId) :
    ∃ w', Sem.run Try.prog (Builtin.delete_ #[62, 74] ty #[.map (some b), sub e.k e.l]) w = .ok (.tuple #[]) w' ∧ MapIs w' b (I.eraseIdx j) ∧ w.grownBy w' (some b) := by
  have hlt := mapIs_lt h
  obtain ⟨es, clock, hb, he, hs, ha⟩ := h
  obtain ⟨hk, hl⟩ := hs e (List.mem_of_getElem? hj)
  obtain ⟨lit, hlit⟩ := key_sub e.k e.l hk hl
  obtain ⟨f1, f2⟩ := find_some w he hs ha hj
  obtain ⟨x, hx, hxk⟩ := Option.map_eq_some_iff.1 f2
  have hjs : j < es.size := (Array.getElem?_eq_some_iff.1 hx).1
  have hsub : (es.eraseIdxIfInBounds j).toList = es.toList.eraseIdx j := by
    unfold Array.eraseIdxIfInBounds
    rw [dif_pos hjs]
    simp
  refine ⟨setBlock w b (.map (es.eraseIdxIfInBounds j) clock), ?_, ⟨_, _, heap_setBlock _ _ _ hlt, ?_, ?_, ?_⟩, grown_setBlock _ _ _⟩
  · simp [Builtin.delete_, run_underlying Try.underlying62, MapKept.run_getObj_map hb, law74.check w _ hlit, f1, MapKept.run_setObj_map _ hb, Result.andThen, setBlock]
  · unfold EntsAre at he ⊢
    rw [hsub, ChangeMaps.map_eraseIdx, he, ChangeMaps.map_eraseIdx]
  · exact fun a hm => hs a ((List.eraseIdx_sublist _ _).subset hm)
  · intro i i' a c hi hi' h1 h2
    have key : ∀ i : Nat, (I.eraseIdx j)[i]? = I[if i < j then i else i + 1]? := fun i => by
      rw [List.getElem?_eraseIdx]
      split <;> rfl
    rw [key] at hi hi'
    have := ha _ _ a c hi hi' h1 h2
    split at this <;> split at this <;> omega
/-- 'len(m)'. -/
theorem len_map {w : World} {b : Nat} {I : List Ent} (h : MapIs w b I) : ∃ es clock, w.heap[b]? = some (.map es clock) ∧ es.size = I.length := by
  obtain ⟨es, clock, hb, he, _⟩ := h
  exact ⟨es, clock, hb, by simpa using congrArg List.length he⟩

end Go.Proofs.Qxb6603793a.hist
