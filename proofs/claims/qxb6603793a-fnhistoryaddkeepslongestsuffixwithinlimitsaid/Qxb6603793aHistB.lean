/-
  Seat b6603793a: slices of the call's own that begin anywhere in their array: append of one element, the tail, clear.
-/
import Derived.Test.Qxb6603793aHistA
import Derived.ArgAppend
namespace Go.Proofs.Qxb6603793a.hist
open Go.RowKit Go.Deep

theorem rowIs_setCells {b : Nat} {t : TypeId} {N : Nat} : ∀ (vs : List Value) (o : Nat) (w : World) (f : Nat → Value), w.rowIs b t N f →
    (w.setCells b o vs).rowIs b t N (fun j => if o ≤ j ∧ j < o + vs.length then vs.getD (j - o) undef else f j)
  | [], o, w, f, h => h.congr fun i _ => by rw [if_neg (fun hh => by simp at hh; omega)]
  | v :: r, o, w, f, h => by
    have ih := rowIs_setCells r (o + 1) (w.setCell ⟨b, o, none⟩ v) _ (h.set o v)
    refine World.rowIs.congr (show World.rowIs (w.setCells b o (v :: r)) b t N _ from ih) fun j _ => ?_
    simp only [List.length_cons]
    by_cases h1 : o + 1 ≤ j ∧ j < o + 1 + r.length
    · rw [if_pos h1, if_pos (by omega)]
      obtain ⟨m, hm⟩ : ∃ m, j - o = m + 1 := ⟨j - o - 1, by omega⟩
      rw [hm, List.getD_cons_succ]
      congr 1
      omega
    · rw [if_neg h1]
      by_cases h2 : j = o
      · subst h2
        rw [if_pos rfl, if_pos (by omega), Nat.sub_self]
        rfl
      · rw [if_neg h2, if_neg (by omega)]
theorem grown_setCells {b : Nat} : ∀ (vs : List Value) (o : Nat) (w : World), w.grownBy (w.setCells b o vs) (some b)
  | [], _, w => World.grownBy.refl _ _
  | v :: r, o, w => by
    have ih := grown_setCells r (o + 1) (w.setCell ⟨b, o, none⟩ v) (b := b)
    refine ⟨ih.os, ih.tape, ih.output, ?_, fun k hk hne => ?_⟩
    · have := ih.size; rw [nblk_setCell] at this; exact this
    · rw [show (w.setCells b o (v :: r)) = ((w.setCell ⟨b, o, none⟩ v).setCells b (o + 1) r) from rfl, ih.block k (by rw [nblk_setCell]; exact hk) hne, blk_setCell_other _ _ _ _ (fun e => hne (by rw [e]))]

/-- v is a slice of n elements (n > 0), of 'size' cells each, that lies in block g; its cells are xs. -/
def SlIs (w : World) (E size : Nat) (v : Value) (n : Nat) (xs : List Value) (g : Nat) : Prop :=
  ∃ off cap N f, v = .slice (some ⟨g, off, none⟩) n cap ∧ w.rowIs g E N f ∧ 0 < n ∧ n ≤ cap ∧ cap ≤ maxLen ∧ off + cap * size ≤ N ∧ xs.length = n * size ∧ ∀ j, j < n * size → f (off + j) = xs.getD j undef

theorem slIs_of {w w' : World} {E size : Nat} {v : Value} {n : Nat} {xs : List Value} {g : Nat} (h : SlIs w E size v n xs g) (e : w'.heap[g]? = w.heap[g]?) : SlIs w' E size v n xs g := by
  obtain ⟨off, cap, N, f, h1, h2, r⟩ := h
  exact ⟨off, cap, N, f, h1, h2.of_block e, r⟩
theorem slIs_lt {w : World} {E size : Nat} {v : Value} {n : Nat} {xs : List Value} {g : Nat} (h : SlIs w E size v n xs g) : g < w.heap.size := by
  obtain ⟨off, cap, N, f, h1, h2, r⟩ := h
  exact h2.lt
theorem slIs_own {w : World} {B E size : Nat} {v : Value} {n : Nat} {xs : List Value} (h : w.ownsRow B E size v n xs) (hn : 0 < n) : ∃ g, B ≤ g ∧ SlIs w E size v n xs g := by
  obtain ⟨hl, ⟨_, h0⟩ | ⟨g, cap, cur, rfl, hg, hh, hnc, hm, hs, ht⟩⟩ := h
  · omega
  · refine ⟨g, hg, 0, cap, cap * size, fun j => cur.getD j undef, rfl, ⟨cur, hh, hs, fun i hi => ?_⟩, hn, hnc, hm, by omega, hl, fun j hj => ?_⟩
    · have : i < cur.size := by omega
      simp [Array.getD, this]
    · have hjs : j < cur.size := by
        have : n * size ≤ cap * size := Nat.mul_le_mul_right _ hnc
        omega
      rw [Nat.zero_add, ← ht]
      simp [Array.getD, List.getD, hjs, hj]

/-- 'append(v, x)': v nil. -/
theorem append_nil (w : World) (t ty E : TypeId) (i : TypeInfo) (z : Value) (size bytes : Nat) (ht : Try.prog.underlying t = some (.slice E)) (hi : Try.prog.info? E = some i) (hz : i.zero = some z) (hsize : i.size = size) (hby : i.bytes = bytes) (hzs : z.cells.size = size) (hsz : 0 < size) (hb : bytes ≤ 4096)
    (B : Nat) (news : List Value) (hl : news.length = size) (hnews : ∀ j u, news[j]? = some u → w.cell? ⟨B, j, none⟩ = some u) (h1 : ∀ u ∈ news, u.oneCell' = true) :
    ∃ v' w' g', Sem.run Try.prog (Builtin.append_ #[t, t] ty #[.slice none 0 0, .slice (some ⟨B, 0, none⟩) 1 1]) w = .ok v' w' ∧ SlIs w' E size v' 1 news g' ∧ w.grownBy w' none ∧ w.heap.size ≤ g' := by
  obtain ⟨v', w', hr, hown, hg, _⟩ := run_append_own (P := Try.prog) w w.heap.size t ty E i z size bytes ht hi hz hsize hby hzs hsz (.slice none 0 0) 0 [] (World.ownsRow_nil _ _ _ _) ⟨B, 0, none⟩ 1 1 news (by omega) (fun j u hj => by rw [Addr.add_lit, Nat.zero_add]; exact hnews j u hj) h1 (by unfold maxLen; omega) (by omega) (Nat.le_refl _)
  obtain ⟨g', hg', hs⟩ := slIs_own hown (by omega)
  exact ⟨v', w', g', hr, by simpa using hs, hg, hg'⟩

/-- 'append(v, x)': v a slice of one's own. -/
theorem append_one {w : World} {t ty E : TypeId} {i : TypeInfo} {z : Value} {size bytes : Nat} (ht : Try.prog.underlying t = some (.slice E)) (hi : Try.prog.info? E = some i) (hz : i.zero = some z) (hsize : i.size = size) (hby : i.bytes = bytes) (hzs : z.cells.size = size) (hsz : 0 < size)
    {v : Value} {n : Nat} {xs : List Value} {g : Nat} (h : SlIs w E size v n xs g) (hn : (n + 1) * bytes ≤ 140737488355328) (hn2 : n + 1 ≤ maxLen)
    (B : Nat) (news : List Value) (hl : news.length = size) (hnews : ∀ j u, news[j]? = some u → w.cell? ⟨B, j, none⟩ = some u) (h1 : ∀ u ∈ news, u.oneCell' = true) :
    ∃ v' w' g', Sem.run Try.prog (Builtin.append_ #[t, t] ty #[v, .slice (some ⟨B, 0, none⟩) 1 1]) w = .ok v' w' ∧ SlIs w' E size v' (n + 1) (xs ++ news) g' ∧ w.grownBy w' (some g) ∧ (g' = g ∨ w.heap.size ≤ g') := by
  obtain ⟨off, cap, N, f, rfl, hrow, hn0, hnc, hm, hN, hxl, hx⟩ := h
  have hnews' : ∀ j u, news[j]? = some u → w.cell? ((⟨B, 0, none⟩ : Addr).add j) = some u := fun j u hj => by rw [Addr.add_lit, Nat.zero_add]; exact hnews j u hj
  have hmul : (n + 1) * size = n * size + size := Nat.succ_mul n size
  by_cases hroom : n + 1 ≤ cap
  · have hin : off + n * size + size ≤ N := by
      have : (n + 1) * size ≤ cap * size := Nat.mul_le_mul_right _ hroom
      omega
    have hr := run_append_room_cells (P := Try.prog) w t ty E i ht hi g off n cap ⟨B, 0, none⟩ 1 1 news (by rw [hsize, hl]; omega) hnews' h1 hroom (fun j hj => by rw [hsize, hrow.cell (by omega)]; rfl) (fun j _ => hrow.frozen _)
    rw [hsize] at hr
    refine ⟨_, _, g, hr, ⟨off, cap, N, _, rfl, rowIs_setCells news _ w f hrow, by omega, hroom, hm, hN, by rw [List.length_append, hxl, hl]; omega, fun j hj => ?_⟩, grown_setCells _ _ _, .inl rfl⟩
    by_cases hjn : j < n * size
    · rw [if_neg (by omega), hx j hjn]
      simp [List.getD, List.getElem?_append_left (show j < xs.length by omega)]
    · rw [if_pos (by omega)]
      have e : off + j - (off + n * size) = j - xs.length := by omega
      simp [List.getD, List.getElem?_append_right (show xs.length ≤ j by omega), e]
  · have hold : ∀ (j : Nat) (u : Value), xs[j]? = some u → w.cell? ((⟨g, off, none⟩ : Addr).add j) = some u := fun j u hj => by
      have hjl : j < xs.length := (List.getElem?_eq_some_iff.1 hj).1
      have hmul2 : n * size ≤ cap * size := Nat.mul_le_mul_right _ hnc
      rw [Addr.add_lit, hrow.cell (by omega), hx j (by omega)]
      simp [List.getD, hj]
    obtain ⟨v', w', hr, hown, hg⟩ := run_append_arg_grows (P := Try.prog) w t ty E i z size bytes ht hi hz hsize hby hzs hsz ⟨g, off, none⟩ n cap xs hxl hold ⟨B, 0, none⟩ 1 1 news (by omega) hnews' (by omega) hn2 hn
    obtain ⟨g', hg', hs⟩ := slIs_own hown (by omega)
    exact ⟨v', w', g', hr, hs, ⟨hg.os, hg.tape, hg.output, hg.size, fun k hk _ => hg.block k hk (by simp)⟩, .inr hg'⟩

/-- 'v[d:]', d < n. -/
theorem slIs_tail {w : World} {E size : Nat} {n : Nat} {xs : List Value} {g off cap N : Nat} {f : Nat → Value} (hrow : w.rowIs g E N f) (hnc : n ≤ cap) (hm : cap ≤ maxLen) (hN : off + cap * size ≤ N) (hxl : xs.length = n * size)
    (hx : ∀ j, j < n * size → f (off + j) = xs.getD j undef) (d : Nat) (hd : d < n) : SlIs w E size (.slice (some ⟨g, off + d * size, none⟩) (n - d) (cap - d)) (n - d) (xs.drop (d * size)) g := by
  have e1 : d * size + (n - d) * size = n * size := by rw [← Nat.add_mul]; congr 1; omega
  have e2 : d * size + (cap - d) * size = cap * size := by rw [← Nat.add_mul]; congr 1; omega
  refine ⟨off + d * size, cap - d, N, f, rfl, hrow, by omega, by omega, by omega, by omega, by rw [List.length_drop]; omega, fun j hj => ?_⟩
  rw [Nat.add_assoc, hx _ (by omega)]
  simp [List.getD, List.getElem?_drop]

theorem info3 : (Try.prog.info? 3).map (fun i => (i.zero, i.size, i.bytes)) = some (some (.int .i64 0), 1, 8) := by kernel_rfl
def z69 : Value := .agg #[.int .u64 0, .string ⟨#[]⟩, .string ⟨#[]⟩, .string ⟨#[]⟩, .string ⟨#[]⟩, .string ⟨#[]⟩, .int .u64 0]
theorem info69 : (Try.prog.info? 69).map (fun i => (i.zero, i.size, i.bytes)) = some (some z69, 7, 96) := by kernel_rfl
/-- 'clear(v[:d])', d > 0: what lies from element d on is as it was. -/
theorem clear_head {w : World} {g off cap N d : Nat} {f : Nat → Value} (hrow : w.rowIs g 69 N f) (hN : off + d * 7 ≤ N) (hd : 0 < d) (ty : TypeId) :
    ∃ w' f', Sem.run Try.prog (Builtin.clear_ #[63] ty #[.slice (some ⟨g, off, none⟩) d cap]) w = .ok (.tuple #[]) w' ∧ w'.rowIs g 69 N f' ∧ (∀ j, off + d * 7 ≤ j → f' j = f j) ∧ w.grownBy w' (some g) := by
  have hzl : (Builtin.zeroCells z69.cells d).toList.length = d * 7 := by
    rw [Array.length_toList, size_zeroCells]
    rfl
  have hone : ∀ u ∈ (Builtin.zeroCells z69.cells d).toList, u.oneCell' = true := fun u hu => by
    have hm : u ∈ Builtin.zeroCells z69.cells d := by simpa using hu
    unfold Builtin.zeroCells at hm
    obtain ⟨i, _, rfl⟩ := Array.mem_map.1 hm
    have h7 : ∀ k : Fin 7, ((z69.cells)[k.val]!).oneCell' = true := by decide
    exact h7 ⟨i % 7, Nat.mod_lt _ (by decide)⟩
  have hst := run_storeCells_cells (P := Try.prog) g off (Builtin.zeroCells z69.cells d).toList 0 w (fun j hj => by rw [Nat.add_zero, hrow.cell (by omega)]; rfl) (fun j _ => hrow.frozen _) hone
  rw [Nat.add_zero] at hst
  refine ⟨w.setCells g off (Builtin.zeroCells z69.cells d).toList, _, ?_, rowIs_setCells _ off w f hrow, fun j hj => if_neg (by omega), grown_setCells _ _ _⟩
  obtain ⟨d, rfl⟩ : ∃ e, d = e + 1 := ⟨d - 1, by omega⟩
  generalize (w.setCells g off (Builtin.zeroCells z69.cells (d + 1)).toList) = w' at *
  unfold z69 at hst
  simp [Builtin.clear_, run_underlying Try.underlying63, Result.andThen]
  rw [hst]
end Go.Proofs.Qxb6603793a.hist
