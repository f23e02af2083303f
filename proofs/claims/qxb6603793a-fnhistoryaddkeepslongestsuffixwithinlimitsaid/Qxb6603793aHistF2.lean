/-
  Seat b6603793a: facts on add's worlds inside its loop and behind it.
-/
import Derived.Test.Qxb6603793aHistF
import Derived.Deep.RegionLaw
namespace Go.Proofs.Qxb6603793a.hist
open Go.RowKit Go.Deep

/-- append, as one step of a region that draws, by its run. -/
theorem step_append_run {P : Program} {ops : Array Oper} {o : Oper} {a : Act} {w w' : World} {K : Act → World → Prop} {Q : Exit → Act → World → Prop} {E : Prop}
    (hg : o.guard = none) (s x : Operand) (t : TypeId) (hop : o.op = Op.call { callee := Callee.builtin Builtin.append, args := #[s, x], argTypes := #[t, t] }) (vs vx v' : Value)
    (hrun : Sem.run P (Builtin.append_ #[t, t] o.type #[vs, vx]) w = .ok v' w') (hs : a.eval s = vs) (hx : a.eval x = vx) (hK : K (a.put o.dst v') w') :
    if Region.wanted o (yielded ops a.tmps) = true then Oper.wp P o a w K Q else E := by
  have hw : Region.wanted o (yielded ops a.tmps) = true := by simp [Region.wanted, hg]
  rw [if_pos hw]
  unfold Oper.wp
  simp [execOp, hop, resolve, invoke, builtin, hs, hx, hrun, Result.andThen]
  exact hK
/-- delete, likewise. -/
theorem step_delete_run {P : Program} {ops : Array Oper} {o : Oper} {a : Act} {w w' : World} {K : Act → World → Prop} {Q : Exit → Act → World → Prop} {E : Prop}
    (hg : o.guard = none) (s x : Operand) (t t' : TypeId) (hop : o.op = Op.call { callee := Callee.builtin Builtin.delete, args := #[s, x], argTypes := #[t, t'] }) (vs vx v' : Value)
    (hrun : Sem.run P (Builtin.delete_ #[t, t'] o.type #[vs, vx]) w = .ok v' w') (hs : a.eval s = vs) (hx : a.eval x = vx) (hK : K (a.put o.dst v') w') :
    if Region.wanted o (yielded ops a.tmps) = true then Oper.wp P o a w K Q else E := by
  have hw : Region.wanted o (yielded ops a.tmps) = true := by simp [Region.wanted, hg]
  rw [if_pos hw]
  unfold Oper.wp
  simp [execOp, hop, resolve, invoke, builtin, hs, hx, hrun, Result.andThen]
  exact hK

/-- 'Main' with its places told. -/
def MainG (w : World) (H0 p bm : Nat) (start after size : Int) (d : Nat) (cs : List Chg) (S : List Idx) (W : World) (g off cap : Nat) (G : Nat → Nat) : Prop :=
  W.rowIs p 65 6 (hf (.slice (some ⟨g, off, none⟩) cs.length cap) start after size d bm) ∧ SlIs W 69 7 (.slice (some ⟨g, off, none⟩) cs.length cap) cs.length (allCells cs) g ∧ H0 ≤ g ∧ MapG W bm H0 S G ∧ Below H0 w W
theorem main_open {w W : World} {H0 p bm d : Nat} {start after size : Int} {cs : List Chg} {S : List Idx} (h : Main w H0 p bm start after size d cs S W) : ∃ g off cap G, MainG w H0 p bm start after size d cs S W g off cap G := by
  obtain ⟨a, cap, G, g, h1, h2, h3, h4, h5⟩ := h
  obtain ⟨off, cap', N, f, e, r⟩ := id h2
  simp only [Value.slice.injEq] at e
  obtain ⟨rfl, _, rfl⟩ := e
  exact ⟨g, off, cap, G, h1, h2, h3, h4, h5⟩
section
variable {w W W' : World} {H0 p bm d g off cap : Nat} {start after size : Int} {cs : List Chg} {S : List Idx} {G : Nat → Nat}
theorem mainG_shut (h : MainG w H0 p bm start after size d cs S W g off cap G) : Main w H0 p bm start after size d cs S W := ⟨_, cap, G, g, h⟩
theorem mainG_cells (h : MainG w H0 p bm start after size d cs S W g off cap G) :
    W.cell? ⟨p, 0, none⟩ = some (.slice (some ⟨g, off, none⟩) cs.length cap) ∧ W.cell? ⟨p, 1, none⟩ = some (.int .u64 start) ∧ W.cell? ⟨p, 2, none⟩ = some (.int .u64 after) ∧ W.cell? ⟨p, 3, none⟩ = some (.int .i64 size) ∧ W.cell? ⟨p, 4, none⟩ = some (.int .i64 (d : Nat)) ∧ W.cell? ⟨p, 5, none⟩ = some (.map (some bm)) ∧ (∀ j, W.frozen? ⟨p, j, none⟩ = false) ∧ p < W.heap.size := by
  obtain ⟨p0, p1, p2, p3, p4, p5, pf⟩ := hrow_cells h.1
  exact ⟨p0, p1, p2, p3, p4, p5, pf, h.1.lt⟩
theorem mainG_chg (h : MainG w H0 p bm start after size d cs S W g off cap G) {k : Nat} {c : Chg} (hk : cs[k]? = some c) (j : Nat) (hj : j < 7) : W.cell? ⟨g, off + (k * 7 + j), none⟩ = some (cf c j) := by
  obtain ⟨off', cap', N, f, e, hrow, h0, hnc, hm, hN, hxl, hx⟩ := h.2.1
  simp only [Value.slice.injEq, Option.some.injEq, Addr.mk.injEq] at e
  obtain ⟨⟨_, rfl, _⟩, _, rfl⟩ := e
  have hkl : k < cs.length := (List.getElem?_eq_some_iff.1 hk).1
  have h7 : k * 7 + j < cs.length * 7 := by omega
  have hcap : cs.length * 7 ≤ cap * 7 := Nat.mul_le_mul_right _ hnc
  rw [hrow.cell (by omega), hx _ h7, allCells_get cs k j c hk hj]
theorem mainG_cap (h : MainG w H0 p bm start after size d cs S W g off cap G) : cs.length ≤ cap ∧ cap ≤ maxLen ∧ 0 < cs.length := by
  obtain ⟨off', cap', N, f, e, hrow, h0, hnc, hm, hN, hxl, hx⟩ := h.2.1
  simp only [Value.slice.injEq, Option.some.injEq, Addr.mk.injEq] at e
  obtain ⟨⟨_, rfl, _⟩, _, rfl⟩ := e
  exact ⟨hnc, hm, h0⟩
theorem mainG_below (h : MainG w H0 p bm start after size d cs S W g off cap G) (hH : H0 ≤ w.heap.size) (hb : Below W.heap.size W W') : MainG w H0 p bm start after size d cs S W' g off cap G := by
  obtain ⟨h1, h2, h3, h4, h5⟩ := h
  exact ⟨row_below h1 hb, slIs_of h2 (hb.block _ (slIs_lt h2)), h3, mapG_below h4 hb, h5.trans (hb.mono (Nat.le_trans hH h5.size))⟩
theorem mainG_drew (h : MainG w H0 p bm start after size d cs S W g off cap G) : MainG w H0 p bm start after size d cs S W.drew g off cap G := by
  obtain ⟨h1, h2, h3, h4, h5⟩ := h
  exact ⟨h1, h2, h3, mapG_below h4 ((Below.refl _ _).drew), h5.drew⟩
theorem grown_setCell (W : World) (b o : Nat) (u : Value) : W.grownBy (W.setCell ⟨b, o, none⟩ u) (some b) := ⟨rfl, rfl, rfl, by rw [nblk_setCell]; exact Nat.le_refl _, fun k _ hk => blk_setCell_other _ _ _ _ (fun e => hk (by rw [e]))⟩
theorem mainG_size (h : MainG w H0 p bm start after size d cs S W g off cap G) (hHp : H0 ≤ p) (size' : Int) : MainG w H0 p bm start after size' d cs S (W.setCell ⟨p, 3, none⟩ (.int .i64 size')) g off cap G := by
  obtain ⟨h1, h2, h3, h4, h5⟩ := h
  refine ⟨hrow_set h1 3 _ _ (fun j hj => ?_), slIs_of h2 (blk_setCell_other _ _ _ _ (fun e => row_ne_sl h1 h2 (by decide) e.symm)), h3, mapG_other h4 ⟨6, _, 65, h1, by decide⟩ (grown_setCell _ _ _ _), h5.setCell (by exact hHp) _⟩
  match j, hj with
  | 0, _ => rfl
  | 1, _ => rfl
  | 2, _ => rfl
  | 3, _ => rfl
  | 4, _ => rfl
  | 5, _ => rfl

/-- Behind the load of the oldest change into box b. -/
def Box (w : World) (H0 p bm : Nat) (start after size : Int) (d : Nat) (cs : List Chg) (S : List Idx) (g off cap : Nat) (G : Nat → Nat) (c : Chg) (b : Nat) (W : World) : Prop := MainG w H0 p bm start after size d cs S W g off cap G ∧ W.rowIs b 69 7 (cf c) ∧ b ≠ g
theorem box_new (h : MainG w H0 p bm start after size d cs S W g off cap G) (hH : H0 ≤ w.heap.size) (c : Chg) : Box w H0 p bm start after size d cs S g off cap G c W.heap.size (W.alloc (.cells #[.int .u64 c.rev, .string c.key, .string c.val, .string c.lock, .string c.ev, .string c.hold, .int .u64 c.tok] 69)) :=
  ⟨mainG_below h hH ((Below.refl _ _).alloc (Nat.le_refl _) _), crow_new W c, fun e => by have := slIs_lt h.2.1; omega⟩
theorem box_below {c : Chg} {b : Nat} (h : Box w H0 p bm start after size d cs S g off cap G c b W) (hH : H0 ≤ w.heap.size) (hb : Below W.heap.size W W') : Box w H0 p bm start after size d cs S g off cap G c b W' :=
  ⟨mainG_below h.1 hH hb, row_below h.2.1 hb, h.2.2⟩
theorem box_drew {c : Chg} {b : Nat} (h : Box w H0 p bm start after size d cs S g off cap G c b W) : Box w H0 p bm start after size d cs S g off cap G c b W.drew := ⟨mainG_drew h.1, h.2.1, h.2.2⟩
theorem box_size {c : Chg} {b : Nat} (h : Box w H0 p bm start after size d cs S g off cap G c b W) (hHp : H0 ≤ p) (size' : Int) : Box w H0 p bm start after size' d cs S g off cap G c b (W.setCell ⟨p, 3, none⟩ (.int .i64 size')) :=
  ⟨mainG_size h.1 hHp size', h.2.1.setOther (row_ne_row h.1.1 h.2.1 (by decide)).symm _, h.2.2⟩
/-- .. of its subject into box bs. -/
def Box2 (w : World) (H0 p bm : Nat) (start after size : Int) (d : Nat) (cs : List Chg) (S : List Idx) (g off cap : Nat) (G : Nat → Nat) (c : Chg) (b bs : Nat) (W : World) : Prop := Box w H0 p bm start after size d cs S g off cap G c b W ∧ W.rowIs bs 74 2 (sf c)
theorem box2_new {c : Chg} {b : Nat} (h : Box w H0 p bm start after size d cs S g off cap G c b W) (hH : H0 ≤ w.heap.size) (hb : Below W.heap.size W W') : Box2 w H0 p bm start after size d cs S g off cap G c b W'.heap.size (W'.alloc (.cells #[.string c.key, .string c.lock] 74)) :=
  ⟨box_below (box_below h hH hb) hH ((Below.refl _ _).alloc (Nat.le_refl _) _), srow_new W' c⟩
/-- .. of its entry into box be. -/
def Box3 (w : World) (H0 p bm : Nat) (start after size : Int) (d : Nat) (cs : List Chg) (S : List Idx) (g off cap : Nat) (G : Nat → Nat) (c : Chg) (b bs be : Nat) (va : Value) (bef : Int) (W : World) : Prop := Box2 w H0 p bm start after size d cs S g off cap G c b bs W ∧ W.rowIs be 71 2 (ef va bef)
theorem box3_new {c : Chg} {b bs : Nat} (h : Box2 w H0 p bm start after size d cs S g off cap G c b bs W) (hH : H0 ≤ w.heap.size) (va : Value) (bef : Int) : Box3 w H0 p bm start after size d cs S g off cap G c b bs W.heap.size va bef (W.alloc (.cells #[va, .int .u64 bef] 71)).drew :=
  ⟨⟨box_drew (box_below h.1 hH ((Below.refl _ _).alloc (Nat.le_refl _) _)), h.2.alloc _⟩, erow_new W va bef⟩

/-- The oldest change's entry, looked up. -/
theorem drop_look (h : MainG w H0 p bm start after size d cs S W g off cap G) {d' : Nat} {c : Chg} {r : List Chg} (hI : Inv d' (c :: r) S) : ∃ j s o cp, S[j]? = some s ∧ s.k = c.key ∧ s.l = c.lock ∧ SlIs W 3 1 (.slice (some ⟨G j, o, none⟩) s.ps.length cp) s.ps.length (ints s.ps) (G j) ∧
    ∀ w' : World, w'.heap[bm]? = W.heap[bm]? → Sem.run Try.prog (Instr.lookup 62 (.map (some bm)) (.agg #[.string c.key, .string c.lock]) false) w' = .ok (.agg #[.slice (some ⟨G j, o, none⟩) s.ps.length cp, .int .u64 s.bef]) w' := by
  obtain ⟨j, s, hj, e1, e2⟩ := hI.has c (by simp)
  obtain ⟨va, hs, hrun⟩ := mapG_some h.2.2.2.1 hj
  obtain ⟨o, cp, N, f, rfl, hr⟩ := id hs
  refine ⟨j, s, o, cp, hj, e1, e2, hs, fun w' hw => ?_⟩
  have := hrun false w' hw
  rw [e1, e2] at this
  exact this
/-- The map block's turn. -/
theorem mainG_map {S' : List Idx} {G' : Nat → Nat} (h : MainG w H0 p bm start after size d cs S W g off cap G) (hbm : H0 ≤ bm) (hH : H0 ≤ w.heap.size) (hM : MapG W' bm H0 S' G') (hg : W.grownBy W' (some bm)) : MainG w H0 p bm start after size d cs S' W' g off cap G' := by
  obtain ⟨h1, h2, h3, h4, h5⟩ := h
  refine ⟨h1.of_block (hg.block _ h1.lt (fun e => row_ne_map h1 h4 (Option.some.inj e))), slIs_of h2 (hg.block _ (slIs_lt h2) (fun e => ?_)), h3, hM, h5.grown hg (Nat.le_trans hH h5.size) (fun q e => by rw [← Option.some.inj e]; exact hbm)⟩
  obtain ⟨o, cp, N, f, _, hr, _⟩ := h2
  exact row_ne_map hr h4 (Option.some.inj e)
/-- The entry loses its first position. -/
theorem drop_put (h : MainG w H0 p bm start after size d cs S W g off cap G) (hbm : H0 ≤ bm) (hH : H0 ≤ w.heap.size) {c : Chg} {j o cp : Nat} {s : Idx} (hj : S[j]? = some s) (e1 : s.k = c.key) (e2 : s.l = c.lock)
    (hs : SlIs W 3 1 (.slice (some ⟨G j, o, none⟩) s.ps.length cp) s.ps.length (ints s.ps) (G j)) (hlen : 1 < s.ps.length) :
    ∃ X S' G', Sem.run Try.prog (Instr.mapUpdate 62 (.map (some bm)) (.agg #[.string c.key, .string c.lock]) (.agg #[.slice (some ⟨G j, o + 1, none⟩) (s.ps.length - 1) (cp - 1), .int .u64 c.rev])) W.drew = .ok () X ∧ DropRel S c S' ∧ MainG w H0 p bm start after size d cs S' X g off cap G' := by
  obtain ⟨o', cp', N, f, e, hrow, h0, hnc, hm, hN, hxl, hx⟩ := id hs
  simp only [Value.slice.injEq, Option.some.injEq, Addr.mk.injEq] at e
  obtain ⟨⟨_, rfl, _⟩, _, rfl⟩ := e
  have ht := slIs_tail hrow hnc hm hN hxl hx 1 hlen
  have hi : (ints s.ps).drop (1 * 1) = ints s.ps.tail := by cases s.ps <;> simp [ints]
  have hl : s.ps.length - 1 = s.ps.tail.length := by simp
  have ht' : SlIs W.drew 3 1 (.slice (some ⟨G j, o + 1, none⟩) (s.ps.length - 1) (cp - 1)) s.ps.tail.length (ints s.ps.tail) (G j) := by
    rw [hi] at ht
    rw [← hl]
    exact ht
  obtain ⟨X, G', hrun, hM, hg⟩ := mapG_set (mapG_below h.2.2.2.1 ((Below.refl _ _).drew)) hj (World.grownBy.refl W.drew _) (bef := c.rev) ht' (.inl rfl) (Nat.le_trans hH h.2.2.2.2.size)
  refine ⟨X, _, G', ?_, ⟨j, s, hj, e1, e2, .inl ⟨hlen, rfl⟩⟩, mainG_map (mainG_drew h) hbm hH hM hg⟩
  rw [e1, e2] at hrun
  exact hrun
/-- The entry goes. -/
theorem drop_del (h : MainG w H0 p bm start after size d cs S W g off cap G) (hbm : H0 ≤ bm) (hH : H0 ≤ w.heap.size) {c : Chg} {j : Nat} {s : Idx} (hj : S[j]? = some s) (e1 : s.k = c.key) (e2 : s.l = c.lock) (hlen : s.ps.length ≤ 1) :
    ∃ X S' G', (∀ ty, Sem.run Try.prog (Builtin.delete_ #[62, 74] ty #[.map (some bm), .agg #[.string c.key, .string c.lock]]) W.drew = .ok (.tuple #[]) X) ∧ DropRel S c S' ∧ MainG w H0 p bm start after size d cs S' X g off cap G' := by
  obtain ⟨X, G', hrun, hM, hg⟩ := mapG_del (mapG_below h.2.2.2.1 ((Below.refl _ _).drew)) hj 0
  refine ⟨X, _, G', fun ty => ?_, ⟨j, s, hj, e1, e2, .inr ⟨hlen, rfl⟩⟩, mainG_map (mainG_drew h) hbm hH hM hg⟩
  rw [e1, e2] at hrun
  exact hrun
end

/-- add's loop, k changes dropped. -/
def Loop (w : World) (H0 p bm : Nat) (start after limit : Int) (d : Nat) (cs : List Chg) (S : List Idx) (k : Nat) (W : World) : Prop :=
  k < cs.length ∧ (∀ i, i < k → limit < (costs (cs.drop i) : Nat)) ∧ ∃ Sk, DropsRel S (cs.take k) Sk ∧ Inv (d + k) (cs.drop k) Sk ∧ Main w H0 p bm start after (costs (cs.drop k) : Nat) d cs Sk W
theorem costs_drop (cs : List Chg) {k : Nat} {c : Chg} (h : cs[k]? = some c) : costs (cs.drop k) = cost c + costs (cs.drop (k + 1)) := by
  obtain ⟨hl, rfl⟩ := List.getElem?_eq_some_iff.1 h
  rw [List.drop_eq_getElem_cons hl]
  rfl
theorem drop_cons {cs : List Chg} {k : Nat} {c : Chg} (h : cs[k]? = some c) : cs.drop k = c :: cs.drop (k + 1) := by
  obtain ⟨hl, rfl⟩ := List.getElem?_eq_some_iff.1 h
  exact List.drop_eq_getElem_cons hl
theorem loop_next {w : World} {H0 p bm : Nat} {start after limit : Int} {d : Nat} {cs : List Chg} {S : List Idx} {k : Nat} (hk1 : k + 1 < cs.length) (h2 : ∀ i, i < k → limit < (costs (cs.drop i) : Nat)) (h3 : limit < (costs (cs.drop k) : Nat)) {Sk S' : List Idx} (hd : DropsRel S (cs.take k) Sk) (hI : Inv (d + k) (cs.drop k) Sk)
    {c : Chg} (hc : cs[k]? = some c) (hr : DropRel Sk c S') {W : World} (hM : Main w H0 p bm start after (costs (cs.drop (k + 1)) : Nat) d cs S' W) : Loop w H0 p bm start after limit d cs S (k + 1) W := by
  refine ⟨hk1, fun i hi => ?_, S', ?_, ?_, hM⟩
  · by_cases e : i = k
    · rw [e]; exact h3
    · exact h2 i (by omega)
  · rw [List.take_add_one, hc]
    exact dropsRel_snoc hd hr
  · rw [drop_cons hc] at hI
    exact inv_drop hI hr

/-- 'clear' of no elements. -/
theorem clear_none (w : World) (a : Addr) (cap : Nat) (ty : TypeId) : Sem.run Try.prog (Builtin.clear_ #[63] ty #[.slice (some a) 0 cap]) w = .ok (.tuple #[]) w := by
  simp [Builtin.clear_, run_underlying Try.underlying63, Result.andThen]
theorem mainG_after {w W : World} {H0 p bm d g off cap : Nat} {start after size : Int} {cs : List Chg} {S : List Idx} {G : Nat → Nat} (h : MainG w H0 p bm start after size d cs S W g off cap G) (hHp : H0 ≤ p) (after' : Int) : MainG w H0 p bm start after' size d cs S (W.setCell ⟨p, 2, none⟩ (.int .u64 after')) g off cap G := by
  obtain ⟨h1, h2, h3, h4, h5⟩ := h
  refine ⟨hrow_set h1 2 _ _ (fun j hj => ?_), slIs_of h2 (blk_setCell_other _ _ _ _ (fun e => row_ne_sl h1 h2 (by decide) e.symm)), h3, mapG_other h4 ⟨6, _, 65, h1, by decide⟩ (grown_setCell _ _ _ _), h5.setCell (by exact hHp) _⟩
  match j, hj with
  | 0, _ => rfl
  | 1, _ => rfl
  | 2, _ => rfl
  | 3, _ => rfl
  | 4, _ => rfl
  | 5, _ => rfl
/-- The end of add: clear, the changes' tail, the count of the dropped. -/
theorem tail_run {w W : World} {H0 p bm d g off cap : Nat} {start after size : Int} {cs : List Chg} {S : List Idx} {G : Nat → Nat} (h : MainG w H0 p bm start after size d cs S W g off cap G) (hH : H0 ≤ w.heap.size) (hHp : H0 ≤ p) (k : Nat) (hk : k < cs.length) :
    ∃ X, (∀ ty, Sem.run Try.prog (Builtin.clear_ #[63] ty #[.slice (some ⟨g, off, none⟩) k cap]) W = .ok (.tuple #[]) X) ∧ X.cell? ⟨p, 0, none⟩ = some (.slice (some ⟨g, off, none⟩) cs.length cap) ∧ X.cell? ⟨p, 4, none⟩ = some (.int .i64 (d : Nat)) ∧ (∀ j, X.frozen? ⟨p, j, none⟩ = false) ∧ p < X.heap.size ∧
      Main w H0 p bm start after size (d + k) (cs.drop k) S ((X.setCell ⟨p, 0, none⟩ (.slice (some ⟨g, off + k * 7, none⟩) (cs.length - k) (cap - k))).setCell ⟨p, 4, none⟩ (.int .i64 ((d : Int) + (k : Int)))) := by
  obtain ⟨h1, h2, h3, h4, h5⟩ := h
  obtain ⟨off', cap', N, f, e, hrow, h0, hnc, hm, hN, hxl, hx⟩ := id h2
  simp only [Value.slice.injEq, Option.some.injEq, Addr.mk.injEq] at e
  obtain ⟨⟨_, rfl, _⟩, _, rfl⟩ := e
  have hpg : p ≠ g := row_ne_sl h1 h2 (by decide)
  have key : ∃ X f', (∀ ty, Sem.run Try.prog (Builtin.clear_ #[63] ty #[.slice (some ⟨g, off, none⟩) k cap]) W = .ok (.tuple #[]) X) ∧ X.rowIs g 69 N f' ∧ (∀ j, off + k * 7 ≤ j → f' j = f j) ∧ W.grownBy X (some g) := by
    by_cases hk0 : k = 0
    · subst hk0
      exact ⟨W, f, fun ty => clear_none W _ _ ty, hrow, fun j _ => rfl, World.grownBy.refl _ _⟩
    · obtain ⟨X, f', r1, r2⟩ := clear_head (off := off) (cap := cap) hrow (d := k) (by have : k * 7 ≤ cap * 7 := Nat.mul_le_mul_right _ (by omega); omega) (by omega) 0
      exact ⟨X, f', fun ty => r1, r2⟩
  obtain ⟨X, f', hrun, hrow', hf', hg⟩ := key
  have hPX := h1.of_block (hg.block _ h1.lt (fun e => hpg (Option.some.inj e)))
  have hMX : MapG X bm H0 S G := mapG_other h4 ⟨N, f, 69, hrow, by decide⟩ hg
  have hBX : Below H0 w X := h5.grown hg (Nat.le_trans hH h5.size) (fun q e => by rw [← Option.some.inj e]; exact h3)
  have ht := slIs_tail hrow hnc hm hN hxl hx k hk
  have hsX : SlIs X 69 7 (.slice (some ⟨g, off + k * 7, none⟩) (cs.length - k) (cap - k)) (cs.length - k) (allCells (cs.drop k)) g := by
    rw [allCells_drop] at ht
    obtain ⟨o2, c2, N2, f2, e, hr2, q1, q2, q3, q4, q5, q6⟩ := ht
    simp only [Value.slice.injEq, Option.some.injEq, Addr.mk.injEq] at e
    obtain ⟨⟨_, rfl, _⟩, _, rfl⟩ := e
    obtain ⟨ca, ea, sa, fa⟩ := id hr2
    obtain ⟨cb, eb, sb, fb⟩ := id hrow
    rw [ea] at eb
    simp only [Option.some.injEq, Obj.cells.injEq] at eb
    obtain ⟨rfl, _⟩ := eb
    have hNN : N2 = N := by omega
    subst hNN
    refine ⟨off + k * 7, cap - k, N2, f', rfl, hrow', q1, q2, q3, q4, q5, fun j hj => ?_⟩
    have hjN : off + k * 7 + j < N2 := by
      have : (cs.length - k) * 7 ≤ (cap - k) * 7 := Nat.mul_le_mul_right _ q2
      omega
    have hff : f (off + k * 7 + j) = f2 (off + k * 7 + j) := by
      have a1 := hr2.cell hjN
      have a2 := hrow.cell hjN
      rw [a1] at a2
      exact (Option.some.inj a2).symm
    rw [hf' _ (by omega), hff]
    exact q6 j hj
  obtain ⟨p0, p1, p2, p3, p4, p5, pf⟩ := hrow_cells hPX
  have hlen : (cs.drop k).length = cs.length - k := List.length_drop
  refine ⟨X, hrun, p0, p4, pf, hPX.lt, some ⟨g, off + k * 7, none⟩, cap - k, G, g, ?_, ?_, h3, ?_, (hBX.setCell (by exact hHp) _).setCell (by exact hHp) _⟩
  · rw [hlen]
    refine ((hPX.set 0 _).set 4 _).congr (fun j hj => ?_)
    match j, hj with
    | 0, _ => rfl
    | 1, _ => rfl
    | 2, _ => rfl
    | 3, _ => rfl
    | 4, _ => rfl
    | 5, _ => rfl
  · rw [hlen]
    exact slIs_of (slIs_of hsX (blk_setCell_other _ _ _ _ (fun e => hpg e.symm))) (blk_setCell_other _ _ _ _ (fun e => hpg e.symm))
  · exact mapG_other (mapG_other hMX ⟨6, _, 65, hPX, by decide⟩ (grown_setCell _ _ _ _)) ⟨6, _, 65, hPX.set 0 _, by decide⟩ (grown_setCell _ _ _ _)

/-- The revision that a history has dropped up to. -/
def afterOf (after : Int) (cs : List Chg) : Nat → Int
  | 0 => after
  | k + 1 => ((cs[k]?).map Chg.rev).getD after
/-- A history in memory, empty or not. -/
def Hist (w : World) (H0 p bm : Nat) (start after : Int) (d : Nat) (cs : List Chg) (S : List Idx) : Prop :=
  ∃ aC cap G, w.rowIs p 65 6 (hf (.slice aC cs.length cap) start after (costs cs : Nat) d bm) ∧ MapG w bm H0 S G ∧ ChOk w H0 (.slice aC cs.length cap) cs
theorem hist_of_main {w W : World} {H0 p bm d : Nat} {start after : Int} {cs : List Chg} {S : List Idx} (h : Main w H0 p bm start after (costs cs : Nat) d cs S W) : Hist W H0 p bm start after d cs S := by
  obtain ⟨a, cap, G, g, h1, h2, h3, h4, h5⟩ := h
  exact ⟨a, cap, G, h1, h4, .inr ⟨g, h3, h2⟩⟩
/-- What add leaves. -/
def PostAdd (w : World) (H0 p bm : Nat) (start after limit : Int) (d : Nat) (cs : List Chg) (S : List Idx) (c : Chg) (bef : Int) (e : Ending) (w' : World) : Prop :=
  e = .returned (.tuple #[]) ∧ ∃ (k : Nat) (S1 S2 : List Idx), k < (cs ++ [c]).length ∧ (∀ i, i < k → limit < (costs ((cs ++ [c]).drop i) : Nat)) ∧ ((costs ((cs ++ [c]).drop k) : Nat) ≤ limit ∨ k + 1 = (cs ++ [c]).length) ∧
    AddRel S (d + cs.length) c bef S1 ∧ DropsRel S1 ((cs ++ [c]).take k) S2 ∧ Inv (d + k) ((cs ++ [c]).drop k) S2 ∧ Hist w' H0 p bm start (afterOf after (cs ++ [c]) k) (d + k) ((cs ++ [c]).drop k) S2 ∧ Below H0 w w'
end Go.Proofs.Qxb6603793a.hist
