/-
  Seat b6603793a: the walk of (*history).add (40): facts on worlds.
-/
import Derived.Test.Qxb6603793aHistE
import Derived.Deep.RegionWith
import Derived.Deep.DeepCutAuto
namespace Go.Proofs.Qxb6603793a.hist
open Go.RowKit Go.Deep

/-- The world under a new name, of which just F is kept. -/
theorem gen_wp {P : Program} {c : Code} {Q : Exit → Act → World → Prop} {a : Act} {T : World} (F : World → Prop) (h1 : F T) (h2 : ∀ W, F W → c.wp P Q a W) : c.wp P Q a T := h2 T h1

/-- The history's six fields. -/
def hf (vC : Value) (start after size : Int) (d bm : Nat) (i : Nat) : Value :=
  [vC, .int .u64 start, .int .u64 after, .int .i64 size, .int .i64 (d : Nat), .map (some bm)].getD i undef
def cf (c : Chg) (i : Nat) : Value := [Value.int .u64 c.rev, .string c.key, .string c.val, .string c.lock, .string c.ev, .string c.hold, .int .u64 c.tok].getD i undef
def sf (c : Chg) (i : Nat) : Value := [Value.string c.key, .string c.lock].getD i undef
def ef (va : Value) (b : Int) (i : Nat) : Value := [va, .int .u64 b].getD i undef

theorem hrow_cells {W : World} {p bm d : Nat} {vC : Value} {start after size : Int} (h : W.rowIs p 65 6 (hf vC start after size d bm)) :
    W.cell? ⟨p, 0, none⟩ = some vC ∧ W.cell? ⟨p, 1, none⟩ = some (.int .u64 start) ∧ W.cell? ⟨p, 2, none⟩ = some (.int .u64 after) ∧ W.cell? ⟨p, 3, none⟩ = some (.int .i64 size) ∧ W.cell? ⟨p, 4, none⟩ = some (.int .i64 (d : Nat)) ∧ W.cell? ⟨p, 5, none⟩ = some (.map (some bm)) ∧ ∀ j, W.frozen? ⟨p, j, none⟩ = false :=
  ⟨h.cell (by omega), h.cell (by omega), h.cell (by omega), h.cell (by omega), h.cell (by omega), h.cell (by omega), h.frozen⟩
theorem crow_cells {W : World} {b : Nat} {c : Chg} (h : W.rowIs b 69 7 (cf c)) :
    W.cell? ⟨b, 0, none⟩ = some (.int .u64 c.rev) ∧ W.cell? ⟨b, 1, none⟩ = some (.string c.key) ∧ W.cell? ⟨b, 2, none⟩ = some (.string c.val) ∧ W.cell? ⟨b, 3, none⟩ = some (.string c.lock) ∧ W.cell? ⟨b, 4, none⟩ = some (.string c.ev) ∧ W.cell? ⟨b, 5, none⟩ = some (.string c.hold) ∧ W.cell? ⟨b, 6, none⟩ = some (.int .u64 c.tok) :=
  ⟨h.cell (by omega), h.cell (by omega), h.cell (by omega), h.cell (by omega), h.cell (by omega), h.cell (by omega), h.cell (by omega)⟩
theorem srow_cells {W : World} {b : Nat} {c : Chg} (h : W.rowIs b 74 2 (sf c)) : W.cell? ⟨b, 0, none⟩ = some (.string c.key) ∧ W.cell? ⟨b, 1, none⟩ = some (.string c.lock) :=
  ⟨h.cell (by omega), h.cell (by omega)⟩
theorem erow_cells {W : World} {b : Nat} {va : Value} {x : Int} (h : W.rowIs b 71 2 (ef va x)) : W.cell? ⟨b, 0, none⟩ = some va ∧ W.cell? ⟨b, 1, none⟩ = some (.int .u64 x) ∧ ∀ j, W.frozen? ⟨b, j, none⟩ = false :=
  ⟨h.cell (by omega), h.cell (by omega), h.frozen⟩

theorem crow_new (W : World) (c : Chg) : (W.alloc (.cells #[.int .u64 c.rev, .string c.key, .string c.val, .string c.lock, .string c.ev, .string c.hold, .int .u64 c.tok] 69)).rowIs W.heap.size 69 7 (cf c) :=
  ⟨_, blk_alloc_new _ _, rfl, fun i hi => by
    match i, hi with
    | 0, _ => rfl
    | 1, _ => rfl
    | 2, _ => rfl
    | 3, _ => rfl
    | 4, _ => rfl
    | 5, _ => rfl
    | 6, _ => rfl⟩
theorem srow_new (W : World) (c : Chg) : (W.alloc (.cells #[.string c.key, .string c.lock] 74)).rowIs W.heap.size 74 2 (sf c) :=
  ⟨_, blk_alloc_new _ _, rfl, fun i hi => by
    match i, hi with
    | 0, _ => rfl
    | 1, _ => rfl⟩
theorem erow_new (W : World) (va : Value) (x : Int) : (W.alloc (.cells #[va, .int .u64 x] 71)).rowIs W.heap.size 71 2 (ef va x) :=
  ⟨_, blk_alloc_new _ _, rfl, fun i hi => by
    match i, hi with
    | 0, _ => rfl
    | 1, _ => rfl⟩
theorem erow_set {W : World} {b : Nat} {va va' : Value} {x : Int} (h : W.rowIs b 71 2 (ef va x)) : (W.setCell ⟨b, 0, none⟩ va').rowIs b 71 2 (ef va' x) :=
  (h.set 0 va').congr fun i hi => by
    match i, hi with
    | 0, _ => rfl
    | 1, _ => rfl
theorem row_below {W W' : World} {b t n : Nat} {f : Nat → Value} (h : W.rowIs b t n f) (hb : Below W.heap.size W W') : W'.rowIs b t n f := h.of_block (hb.block _ h.lt)

/-- Ahead of the look-up: nothing old has turned; the change lies at bc, its subject at bs. -/
def At1 (w : World) (c : Chg) (bs : Nat) (W : World) : Prop := Below w.heap.size w W ∧ W.rowIs w.heap.size 69 7 (cf c) ∧ W.rowIs bs 74 2 (sf c) ∧ w.heap.size < bs
theorem at1_start {w w1 : World} {c : Chg} (h : Below (w.alloc (.cells #[.int .u64 c.rev, .string c.key, .string c.val, .string c.lock, .string c.ev, .string c.hold, .int .u64 c.tok] 69)).heap.size (w.alloc (.cells #[.int .u64 c.rev, .string c.key, .string c.val, .string c.lock, .string c.ev, .string c.hold, .int .u64 c.tok] 69)) w1) :
    At1 w c w1.heap.size (w1.alloc (.cells #[.string c.key, .string c.lock] 74)) := by
  have hs := h.size
  rw [nblk_alloc] at hs
  have hc := row_below (crow_new w c) h
  have hb : Below w.heap.size w w1 := ((Below.refl _ _).alloc (Nat.le_refl _) _).trans (h.mono (by rw [nblk_alloc]; omega))
  exact ⟨hb.alloc (by omega) _, hc.alloc _, srow_new w1 c, by omega⟩

/-- What the look-up finds: nothing; or the entry at place j, its positions in block G j. -/
def Look (w : World) (S : List Idx) (G : Nat → Nat) (c : Chg) (ok : Bool) (va : Value) (b0 : Int) : Prop :=
  (ok = false ∧ (∀ s ∈ S, ¬ (s.k = c.key ∧ s.l = c.lock)) ∧ va = .slice none 0 0 ∧ b0 = 0) ∨
  (ok = true ∧ ∃ (j : Nat) (s : Idx), S[j]? = some s ∧ s.k = c.key ∧ s.l = c.lock ∧ b0 = s.bef ∧ SlIs w 3 1 va s.ps.length (ints s.ps) (G j))
/-- The look-up's run. -/
theorem look_run {W : World} {bm H0 : Nat} {S : List Idx} {G : Nat → Nat} (h : MapG W bm H0 S G) (c : Chg) (hk : c.key.size ≤ maxLen) (hl : c.lock.size ≤ maxLen) : ∃ ok a n cap b0, Look W S G c ok (.slice a n cap) b0 ∧
    ∀ w' : World, w'.heap[bm]? = W.heap[bm]? → Sem.run Try.prog (Instr.lookup 62 (.map (some bm)) (.agg #[.string c.key, .string c.lock]) true) w' = .ok (.tuple #[.agg #[.slice a n cap, .int .u64 b0], .bool ok]) w' := by
  by_cases hex : ∃ s ∈ S, s.k = c.key ∧ s.l = c.lock
  · obtain ⟨s, hs, e1, e2⟩ := hex
    obtain ⟨j, hj⟩ := List.getElem?_of_mem hs
    obtain ⟨va, hsl, hrun⟩ := mapG_some h hj
    obtain ⟨off, cap, N, f, rfl, r⟩ := hsl
    refine ⟨true, _, _, _, s.bef, .inr ⟨rfl, j, s, hj, e1, e2, rfl, off, cap, N, f, rfl, r⟩, fun w' hw => ?_⟩
    have := hrun true w' hw
    rw [e1, e2] at this
    exact this
  · have hno : ∀ s ∈ S, ¬ (s.k = c.key ∧ s.l = c.lock) := fun s hs he => hex ⟨s, hs, he⟩
    exact ⟨false, none, 0, 0, 0, .inl ⟨rfl, hno, rfl, rfl⟩, fun w' hw => mapG_none h hk hl hno true w' hw⟩

/-- Behind the look-up: the element's copy lies at be. -/
def At2 (w : World) (c : Chg) (bs be : Nat) (va : Value) (b : Int) (W : World) : Prop := At1 w c bs W ∧ W.rowIs be 71 2 (ef va b) ∧ w.heap.size < be
theorem at2_start {w W : World} {c : Chg} {bs : Nat} (h : At1 w c bs W) (va : Value) (b : Int) : At2 w c bs W.heap.size va b (W.alloc (.cells #[va, .int .u64 b] 71)).drew := by
  obtain ⟨h1, h2, h3, h4⟩ := h
  have hs := h1.size
  exact ⟨⟨(h1.alloc hs _).drew, h2.alloc _, h3.alloc _, h4⟩, erow_new W va b, h2.lt⟩
theorem at2_set {w W : World} {c : Chg} {bs be : Nat} {va : Value} {b : Int} (h : At2 w c bs be va b W) (b' : Int) : At2 w c bs be va b' (W.setCell ⟨be, 1, none⟩ (.int .u64 b')) := by
  obtain ⟨⟨h1, h2, h3, h4⟩, h5, h6⟩ := h
  have n2 : w.heap.size ≠ be := by omega
  have n3 : bs ≠ be := by
    rintro rfl
    obtain ⟨c1, q1, _⟩ := h3
    obtain ⟨c2, q2, _⟩ := h5
    rw [q1] at q2
    simp at q2
  refine ⟨⟨h1.setCell (by show _ ≤ be; omega) _, h2.setOther (by exact n2) _, h3.setOther (by exact n3) _, h4⟩, (h5.set 1 _).congr fun i hi => ?_, h6⟩
  match i, hi with
  | 0, _ => rfl
  | 1, _ => rfl

theorem row_ne_row {w : World} {b b' E E' N N' : Nat} {f f' : Nat → Value} (h : w.rowIs b E N f) (h' : w.rowIs b' E' N' f') (hE : E ≠ E') : b ≠ b' := by
  rintro rfl
  obtain ⟨c1, q1, _⟩ := h
  obtain ⟨c2, q2, _⟩ := h'
  rw [q1] at q2
  simp only [Option.some.injEq, Obj.cells.injEq] at q2
  exact hE q2.2.1
theorem row_ne_sl {w : World} {b E N E' size n g : Nat} {f : Nat → Value} {v : Value} {xs : List Value} (h : w.rowIs b E N f) (h' : SlIs w E' size v n xs g) (hE : E ≠ E') : b ≠ g := by
  obtain ⟨off, cap, N', f', _, hr, _⟩ := h'
  exact row_ne_row h hr hE
theorem grown_of_below {w X X' : World} {r : Option Nat} (h : Below w.heap.size w X) (hg : X.grownBy X' r) : w.grownBy X' r :=
  ⟨hg.os.trans h.os, hg.tape.trans h.tape, hg.output.trans h.output, Nat.le_trans h.size hg.size, fun k hk hr => (hg.block k (Nat.lt_of_lt_of_le hk h.size) hr).trans (h.block k hk)⟩
theorem grown_set_new {w X : World} {r : Option Nat} (h : w.grownBy X r) {b o : Nat} (hb : w.heap.size ≤ b) (v : Value) : w.grownBy (X.setCell ⟨b, o, none⟩ v) r :=
  ⟨h.os, h.tape, h.output, by rw [nblk_setCell]; exact h.size, fun k hk hr => (blk_setCell_other _ _ _ _ (by show k ≠ b; omega)).trans (h.block k hk hr)⟩
theorem grown_drew {w X : World} {r : Option Nat} (h : w.grownBy X r) : w.grownBy X.drew r := ⟨h.os, h.tape, h.output, h.size, h.block⟩
theorem grown_undrew {w X : World} {r : Option Nat} (h : w.drew.grownBy X r) : w.grownBy X r := ⟨h.os, h.tape, h.output, h.size, h.block⟩
theorem below_of_grown {w X : World} (h : w.grownBy X none) : Below w.heap.size w X := ⟨h.os, h.tape, h.output, h.size, fun k hk => h.block k hk (by simp)⟩

/-- What is appended: a first position, or one more. -/
def AppI (w : World) (S : List Idx) (G : Nat → Nat) (c : Chg) (ok : Bool) (b0 : Int) (va : Value) (pos : Nat) (W : World) : Prop :=
  (ok = false ∧ (∀ s ∈ S, ¬ (s.k = c.key ∧ s.l = c.lock)) ∧ w.grownBy W none ∧ ∃ g, w.heap.size ≤ g ∧ SlIs W 3 1 va 1 (ints [pos]) g) ∨
  (ok = true ∧ ∃ (j : Nat) (s : Idx) (g : Nat), S[j]? = some s ∧ s.k = c.key ∧ s.l = c.lock ∧ b0 = s.bef ∧ w.grownBy W (some (G j)) ∧ SlIs W 3 1 va (s.ps.length + 1) (ints (s.ps ++ [pos])) g ∧ (g = G j ∨ w.heap.size ≤ g))
/-- The rows at hand: the history, the change, its subject, the element's copy. -/
def Rows4 (w : World) (c : Chg) (p bs be : Nat) (hv : Nat → Value) (va : Value) (b : Int) (W : World) : Prop :=
  W.rowIs p 65 6 hv ∧ W.rowIs w.heap.size 69 7 (cf c) ∧ W.rowIs bs 74 2 (sf c) ∧ W.rowIs be 71 2 (ef va b) ∧ w.heap.size < bs ∧ w.heap.size < be
theorem rows4_kept {w W W' : World} {c : Chg} {p bs be : Nat} {hv : Nat → Value} {va : Value} {b : Int} (h : Rows4 w c p bs be hv va b W) {r : Option Nat} (hg : W.grownBy W' r) (hr : ∀ g, r = some g → ∃ v n xs, SlIs W 3 1 v n xs g) : Rows4 w c p bs be hv va b W' := by
  obtain ⟨h1, h2, h3, h4, h5⟩ := h
  have k : ∀ {b' E N : Nat} {f : Nat → Value}, W.rowIs b' E N f → E ≠ 3 → W'.rowIs b' E N f := fun {b' E N f} hrow hE => hrow.of_block (hg.block _ hrow.lt (fun e => by
    obtain ⟨v, n, xs, hs⟩ := hr b' e.symm
    exact row_ne_sl hrow hs hE rfl))
  exact ⟨k h1 (by decide), k h2 (by decide), k h3 (by decide), k h4 (by decide), h5⟩
theorem rows4_set {w W : World} {c : Chg} {p bs be : Nat} {hv : Nat → Value} {va : Value} {b : Int} (h : Rows4 w c p bs be hv va b W) (va' : Value) : Rows4 w c p bs be hv va' b (W.setCell ⟨be, 0, none⟩ va') := by
  obtain ⟨h1, h2, h3, h4, h5⟩ := h
  exact ⟨h1.setOther (row_ne_row h1 h4 (by decide)) _, h2.setOther (row_ne_row h2 h4 (by decide)) _, h3.setOther (row_ne_row h3 h4 (by decide)) _, erow_set h4, h5⟩
theorem sl_set_other {W : World} {E size n g b o N E' : Nat} {v u : Value} {xs : List Value} {f : Nat → Value} (h : SlIs W E size v n xs g) (hr : W.rowIs b E' N f) (hE : E' ≠ E) : SlIs (W.setCell ⟨b, o, none⟩ u) E size v n xs g :=
  slIs_of h (blk_setCell_other _ _ _ _ (fun e => row_ne_sl hr h hE e.symm))
theorem ints_snoc (ps : List Nat) (q : Nat) : ints (ps ++ [q]) = ints ps ++ [.int .i64 (q : Nat)] := by simp [ints]
theorem ints_len (ps : List Nat) : (ints ps).length = ps.length := by simp [ints]

/-- The append to the positions. -/
theorem app_run {w W : World} {S : List Idx} {G : Nat → Nat} {c : Chg} {p bs be : Nat} {hv : Nat → Value} {ok : Bool} {va : Value} {b0 b : Int} (pos : Nat) (hl : Look w S G c ok va b0) (hB : Below w.heap.size w W) (hR : Rows4 w c p bs be hv va b W)
    (hsm : ∀ s ∈ S, s.ps.length ≤ 1048576) :
    ∃ a' n' c' X, Sem.run Try.prog (Builtin.append_ #[46, 46] 46 #[va, .slice (some ⟨W.heap.size, 0, none⟩) 1 1]) (W.alloc (.cells #[.int .i64 (pos : Nat)] 3)).drew = .ok (.slice a' n' c') X ∧
      X.cell? ⟨be, 0, none⟩ = some va ∧ X.frozen? ⟨be, 0, none⟩ = false ∧
      Rows4 w c p bs be hv (.slice a' n' c') b (X.setCell ⟨be, 0, none⟩ (.slice a' n' c')) ∧ AppI w S G c ok b0 (.slice a' n' c') pos (X.setCell ⟨be, 0, none⟩ (.slice a' n' c')) := by
  obtain ⟨i0, hi, hz0, hz1, hz2⟩ := info_parts info3
  have hBX : Below w.heap.size w (W.alloc (.cells #[.int .i64 (pos : Nat)] 3)).drew := (hB.alloc hB.size _).drew
  have hRX : Rows4 w c p bs be hv va b (W.alloc (.cells #[.int .i64 (pos : Nat)] 3)).drew := rows4_kept hR (r := none) (grown_drew (World.grownBy_alloc _ _ _)) (fun g e => by cases e)
  have hnews : ∀ (j : Nat) (u : Value), [Value.int .i64 (pos : Nat)][j]? = some u → (W.alloc (.cells #[.int .i64 (pos : Nat)] 3)).drew.cell? ⟨W.heap.size, j, none⟩ = some u := fun j u hj => by
    match j, hj with
    | 0, hj => simp at hj; subst hj; simp
  have hone : ∀ u ∈ [Value.int .i64 (pos : Nat)], u.oneCell' = true := by intro u hu; simp at hu; subst hu; rfl
  generalize (W.alloc (.cells #[.int .i64 (pos : Nat)] 3)).drew = Y at *
  rcases hl with ⟨rfl, hno, rfl, rfl⟩ | ⟨rfl, j, s, hj, e1, e2, rfl, hs⟩
  · obtain ⟨v', X, g', hr, hsl, hgr, hg'⟩ := append_nil Y 46 46 3 i0 (.int .i64 0) 1 8 Try.underlying46 hi hz0 hz1 hz2 rfl (by decide) (by decide) W.heap.size [.int .i64 (pos : Nat)] rfl hnews hone
    have hRX' := rows4_kept hRX hgr (fun g e => by cases e)
    have hb := erow_cells hRX'.2.2.2.1
    obtain ⟨off, cap', N, f, hv', hrest⟩ := id hsl
    subst hv'
    refine ⟨_, _, _, X, hr, hb.1, hb.2.2 0, rows4_set hRX' _, .inl ⟨rfl, hno, grown_set_new (grown_of_below hBX hgr) (by have := hRX'.2.2.2.2.2; omega) _, g', by have := hBX.size; omega, sl_set_other hsl hRX'.2.2.2.1 (by decide)⟩⟩
  · have hjl : j < S.length := (List.getElem?_eq_some_iff.1 hj).1
    have hsY : SlIs Y 3 1 va s.ps.length (ints s.ps) (G j) := slIs_of hs (hBX.block _ (slIs_lt hs))
    have hle := hsm s (List.mem_of_getElem? hj)
    obtain ⟨v', X, g', hr, hsl, hgr, hg'⟩ := append_one (t := 46) (ty := 46) Try.underlying46 hi hz0 hz1 hz2 rfl (by decide) hsY (by omega) (by unfold maxLen; omega) W.heap.size [.int .i64 (pos : Nat)] rfl hnews hone
    have hRX' := rows4_kept hRX hgr (fun g e => by obtain rfl := Option.some.inj e; exact ⟨_, _, _, hsY⟩)
    have hb := erow_cells hRX'.2.2.2.1
    rw [← ints_snoc] at hsl
    obtain ⟨off, cap', N, f, hv', hrest⟩ := id hsl
    subst hv'
    refine ⟨_, _, _, X, hr, hb.1, hb.2.2 0, rows4_set hRX' _, .inr ⟨rfl, j, s, g', hj, e1, e2, rfl, grown_set_new (grown_of_below hBX hgr) (by have := hRX'.2.2.2.2.2; omega) _, sl_set_other hsl hRX'.2.2.2.1 (by decide), ?_⟩⟩
    rcases hg' with h | h
    · exact .inl h
    · exact .inr (by have := hBX.size; omega)

theorem row_ne_map {W : World} {b E N bm H0 : Nat} {f : Nat → Value} {S : List Idx} {G : Nat → Nat} (h : W.rowIs b E N f) (hm : MapG W bm H0 S G) : b ≠ bm := by
  rintro rfl
  obtain ⟨I, ⟨es, ck, q1, _⟩, _⟩ := hm
  obtain ⟨c1, q2, _⟩ := h
  rw [q2] at q1
  cases q1
/-- The store back into the map. -/
theorem put_run {w W : World} {bm H0 : Nat} {S : List Idx} {G : Nat → Nat} {c : Chg} {p bs be : Nat} {hv : Nat → Value} {ok : Bool} {va : Value} {b0 bef : Int} (pos : Nat) (hk : c.key.size ≤ maxLen) (hl : c.lock.size ≤ maxLen) (hm : MapG w bm H0 S G) (hH : H0 ≤ w.heap.size) (hbm : H0 ≤ bm)
    (hR : Rows4 w c p bs be hv va (if ok = true then b0 else bef) W) (hA : AppI w S G c ok b0 va pos W) :
    ∃ X S' G', Sem.run Try.prog (Instr.mapUpdate 62 (.map (some bm)) (.agg #[.string c.key, .string c.lock]) (.agg #[va, .int .u64 (if ok = true then b0 else bef)])) W.drew = .ok () X ∧ MapG X bm H0 S' G' ∧ AddRel S pos c bef S' ∧ X.rowIs p 65 6 hv ∧ X.rowIs w.heap.size 69 7 (cf c) ∧
      (∀ b N f, w.rowIs b 69 N f → X.rowIs b 69 N f) ∧ Below H0 w X := by
  have fin : ∀ {r : Option Nat} {X S' G'}, w.grownBy W r → (∀ g, r = some g → H0 ≤ g ∧ ∃ v n xs, SlIs w 3 1 v n xs g) → MapG W.drew bm H0 S G ∨ (∀ b E N f, W.rowIs b E N f → b ≠ bm) → MapG X bm H0 S' G' → W.grownBy X (some bm) → (∀ b E N f, W.rowIs b E N f → b ≠ bm) →
      X.rowIs p 65 6 hv ∧ X.rowIs w.heap.size 69 7 (cf c) ∧ (∀ b N f, w.rowIs b 69 N f → X.rowIs b 69 N f) ∧ Below H0 w X := by
    intro r X S' G' hg hr _ _ hgr hne
    have up : ∀ {b E N : Nat} {f : Nat → Value}, W.rowIs b E N f → X.rowIs b E N f := fun {b E N f} h => h.of_block (hgr.block _ h.lt (fun e => hne b E N f h (Option.some.inj e)))
    refine ⟨up hR.1, up hR.2.1, fun b N f h => up (h.of_block (hg.block _ h.lt (fun e => ?_))), hgr.os.trans hg.os, hgr.tape.trans hg.tape, hgr.output.trans hg.output, Nat.le_trans hg.size hgr.size, fun b hb => ?_⟩
    · obtain ⟨_, v, n, xs, hs⟩ := hr b e.symm
      exact row_ne_sl h hs (by decide) rfl
    · exact (hgr.block b (by have := hg.size; omega) (fun e => by have := Option.some.inj e; omega)).trans (hg.block b (by omega) (fun e => by have := (hr b e.symm).1; omega))
  rcases hA with ⟨rfl, hno, hg, g, hg0, hs⟩ | ⟨rfl, j, s, g, hj, e1, e2, rfl, hg, hs, hgg⟩
  · have hmW : MapG W.drew bm H0 S G := mapG_below hm (below_of_grown (grown_drew hg))
    obtain ⟨X, G', hr, hM, hgr⟩ := mapG_new hmW hk hl hno (ps := [pos]) (bef := bef) hs (fun i hi => by have := mapG_glt hm hi; omega) (by omega)
    obtain ⟨f1, f2, f3, f4⟩ := fin hg (fun g e => by cases e) (.inl hmW) hM (grown_undrew hgr) (fun b E N f h => row_ne_map (W := W.drew) h hmW)
    exact ⟨X, _, G', hr, hM, .inr ⟨hno, rfl⟩, f1, f2, f3, f4⟩
  · have hjl : j < S.length := (List.getElem?_eq_some_iff.1 hj).1
    obtain ⟨va0, hsl, _⟩ := mapG_some hm hj
    have hGj : H0 ≤ G j := by obtain ⟨I, _, _, _, _, h5⟩ := hm; exact h5 j hjl
    have hl1 : (s.ps ++ [pos]).length = s.ps.length + 1 := by simp
    rw [← hl1] at hs
    obtain ⟨X, G', hr, hM, hgr⟩ := mapG_set (w1 := W.drew) hm hj (grown_drew hg) (bef := s.bef) hs hgg hH
    rw [e1, e2] at hr hM
    have hne : ∀ b E N f, W.rowIs b E N f → b ≠ bm := fun b E N f h e => by
      subst e
      obtain ⟨I, ⟨es, ck, q1, _⟩, _⟩ := id hm
      obtain ⟨c1, q2, _⟩ := h
      have hb : W.heap[b]? = w.heap[b]? := hg.block b (Array.getElem?_eq_some_iff.1 q1).1 (fun e => by
        obtain ⟨off, cap', N', f', _, ⟨c2, q3, _⟩, _⟩ := hsl
        obtain rfl := Option.some.inj e
        rw [q1] at q3
        cases q3)
      rw [hb, q1] at q2
      cases q2
    obtain ⟨f1, f2, f3, f4⟩ := fin hg (fun g e => by obtain rfl := Option.some.inj e; exact ⟨hGj, _, _, _, hsl⟩) (.inr hne) hM (grown_undrew hgr) hne
    refine ⟨X, _, G', hr, hM, .inl ⟨j, s, hj, e1, e2, by rw [e1, e2]⟩, f1, f2, f3, f4⟩

def chgCells (c : Chg) : List Value := [.int .u64 c.rev, .string c.key, .string c.val, .string c.lock, .string c.ev, .string c.hold, .int .u64 c.tok]
def allCells : List Chg → List Value
  | [] => []
  | c :: r => chgCells c ++ allCells r
theorem allCells_append (a b : List Chg) : allCells (a ++ b) = allCells a ++ allCells b := by
  induction a with
  | nil => rfl
  | cons c r ih => simp [allCells, ih]
theorem allCells_length (cs : List Chg) : (allCells cs).length = cs.length * 7 := by
  induction cs with
  | nil => rfl
  | cons c r ih => simp [allCells, chgCells, ih]; omega
theorem allCells_drop : ∀ (d : Nat) (cs : List Chg), (allCells cs).drop (d * 7) = allCells (cs.drop d)
  | 0, cs => by simp
  | d + 1, [] => by simp [allCells]
  | d + 1, c :: r => by
    have ih := allCells_drop d r
    rw [List.drop_succ_cons, ← ih]
    have e : (d + 1) * 7 = 7 + d * 7 := by omega
    rw [e, ← List.drop_drop]
    rfl
theorem allCells_get : ∀ (cs : List Chg) (i j : Nat) (c : Chg), cs[i]? = some c → j < 7 → (allCells cs).getD (i * 7 + j) undef = cf c j
  | a :: r, 0, j, c, h, hj => by
    simp at h
    subst h
    match j, hj with
    | 0, _ => rfl
    | 1, _ => rfl
    | 2, _ => rfl
    | 3, _ => rfl
    | 4, _ => rfl
    | 5, _ => rfl
    | 6, _ => rfl
  | a :: r, i + 1, j, c, h, hj => by
    have ih := allCells_get r i j c (by simpa using h) hj
    rw [← ih]
    have e : (i + 1) * 7 + j = 7 + (i * 7 + j) := by omega
    rw [e]
    simp only [allCells, List.getD]
    rw [List.getElem?_append_right (by simp [chgCells])]
    congr 2
    simp [chgCells]

/-- The changes' slice: nil where there is none, else of the call's own. -/
def ChOk (w : World) (H0 : Nat) (v : Value) (cs : List Chg) : Prop := (cs = [] ∧ v = .slice none 0 0) ∨ ∃ g, H0 ≤ g ∧ SlIs w 69 7 v cs.length (allCells cs) g

theorem hrow_set {W : World} {p bm d : Nat} {vC : Value} {start after size : Int} (h : W.rowIs p 65 6 (hf vC start after size d bm)) (i : Nat) (u : Value) (hv : Nat → Value) (he : ∀ j, j < 6 → (if j = i then u else hf vC start after size d bm j) = hv j) : (W.setCell ⟨p, i, none⟩ u).rowIs p 65 6 hv :=
  (h.set i u).congr he

/-- Behind the append to the changes. -/
def Main (w : World) (H0 p bm : Nat) (start after size : Int) (d : Nat) (cs : List Chg) (S : List Idx) (W : World) : Prop :=
  ∃ a cap G g, W.rowIs p 65 6 (hf (.slice a cs.length cap) start after size d bm) ∧ SlIs W 69 7 (.slice a cs.length cap) cs.length (allCells cs) g ∧ H0 ≤ g ∧ MapG W bm H0 S G ∧ Below H0 w W

theorem ch_run {w W : World} {H0 p bm n cap d : Nat} {aC : Option Addr} {start after size : Int} {cs : List Chg} {S' : List Idx} {G' : Nat → Nat} {c : Chg} (hn : cs.length = n) (hnb : n ≤ 1048576) (hH : H0 ≤ w.heap.size) (hHp : H0 ≤ p) (hch : ChOk w H0 (.slice aC n cap) cs) (h69 : ∀ b N f, w.rowIs b 69 N f → W.rowIs b 69 N f)
    (hM : MapG W bm H0 S' G') (hP : W.rowIs p 65 6 (hf (.slice aC n cap) start after size d bm)) (hC : W.rowIs w.heap.size 69 7 (cf c)) (hB : Below H0 w W) :
    ∃ a' c' X, Sem.run Try.prog (Builtin.append_ #[63, 63] 63 #[.slice aC n cap, .slice (some ⟨W.heap.size, 0, none⟩) 1 1]) (W.alloc (.cells #[.int .u64 c.rev, .string c.key, .string c.val, .string c.lock, .string c.ev, .string c.hold, .int .u64 c.tok] 69)).drew = .ok (.slice a' (n + 1) c') X ∧
      X.cell? ⟨p, 0, none⟩ = some (.slice aC n cap) ∧ X.frozen? ⟨p, 0, none⟩ = false ∧ Main w H0 p bm start after size d (cs ++ [c]) S' (X.setCell ⟨p, 0, none⟩ (.slice a' (n + 1) c')) ∧ (X.setCell ⟨p, 0, none⟩ (.slice a' (n + 1) c')).rowIs w.heap.size 69 7 (cf c) := by
  obtain ⟨i0, hi, hz0, hz1, hz2⟩ := info_parts info69
  have hnew := crow_new W c
  have hnews : ∀ (j : Nat) (u : Value), (chgCells c)[j]? = some u → (W.alloc (.cells #[.int .u64 c.rev, .string c.key, .string c.val, .string c.lock, .string c.ev, .string c.hold, .int .u64 c.tok] 69)).drew.cell? ⟨W.heap.size, j, none⟩ = some u := fun j u hj => by
    have hj7 : j < 7 := (List.getElem?_eq_some_iff.1 hj).1
    have h1 : (W.alloc (.cells #[.int .u64 c.rev, .string c.key, .string c.val, .string c.lock, .string c.ev, .string c.hold, .int .u64 c.tok] 69)).drew.cell? ⟨W.heap.size, j, none⟩ = some (cf c j) := hnew.cell hj7
    rw [h1, ← hj]
    have : (chgCells c)[j]? = some (cf c j) := by
      match j, hj7 with
      | 0, _ => rfl
      | 1, _ => rfl
      | 2, _ => rfl
      | 3, _ => rfl
      | 4, _ => rfl
      | 5, _ => rfl
      | 6, _ => rfl
    exact this.symm
  have hone : ∀ u ∈ chgCells c, u.oneCell' = true := by
    intro u hu
    simp [chgCells] at hu
    rcases hu with rfl | rfl | rfl | rfl | rfl | rfl | rfl <;> rfl
  have hMY : MapG (W.alloc (.cells #[.int .u64 c.rev, .string c.key, .string c.val, .string c.lock, .string c.ev, .string c.hold, .int .u64 c.tok] 69)).drew bm H0 S' G' := mapG_below hM (((Below.refl _ _).alloc (Nat.le_refl _) _).drew)
  have hPY : (W.alloc (.cells #[.int .u64 c.rev, .string c.key, .string c.val, .string c.lock, .string c.ev, .string c.hold, .int .u64 c.tok] 69)).drew.rowIs p 65 6 (hf (.slice aC n cap) start after size d bm) := hP.alloc _
  have hCY : (W.alloc (.cells #[.int .u64 c.rev, .string c.key, .string c.val, .string c.lock, .string c.ev, .string c.hold, .int .u64 c.tok] 69)).drew.rowIs w.heap.size 69 7 (cf c) := hC.alloc _
  have hBY : Below H0 w (W.alloc (.cells #[.int .u64 c.rev, .string c.key, .string c.val, .string c.lock, .string c.ev, .string c.hold, .int .u64 c.tok] 69)).drew := (hB.alloc (Nat.le_trans hH hB.size) _).drew
  have hY69 : ∀ b N f, w.rowIs b 69 N f → (W.alloc (.cells #[.int .u64 c.rev, .string c.key, .string c.val, .string c.lock, .string c.ev, .string c.hold, .int .u64 c.tok] 69)).drew.rowIs b 69 N f := fun b N f h => (h69 b N f h).alloc _
  generalize (W.alloc (.cells #[.int .u64 c.rev, .string c.key, .string c.val, .string c.lock, .string c.ev, .string c.hold, .int .u64 c.tok] 69)).drew = Y at *
  have fin : ∀ {v' : Value} {X : World} {g' : Nat} {r : Option Nat}, SlIs X 69 7 v' (n + 1) (allCells cs ++ chgCells c) g' → H0 ≤ g' → Y.grownBy X r → (∀ g, r = some g → g < w.heap.size ∧ H0 ≤ g ∧ ∃ N f, Y.rowIs g 69 N f) →
      ∃ a' c', v' = .slice a' (n + 1) c' ∧ X.cell? ⟨p, 0, none⟩ = some (.slice aC n cap) ∧ X.frozen? ⟨p, 0, none⟩ = false ∧ Main w H0 p bm start after size d (cs ++ [c]) S' (X.setCell ⟨p, 0, none⟩ (.slice a' (n + 1) c')) ∧ (X.setCell ⟨p, 0, none⟩ (.slice a' (n + 1) c')).rowIs w.heap.size 69 7 (cf c) := by
    intro v' X g' r hsl hg' hgr hr
    have hPX : X.rowIs p 65 6 (hf (.slice aC n cap) start after size d bm) := hPY.of_block (hgr.block _ hPY.lt (fun e => by
      obtain ⟨_, _, N, f, h⟩ := hr p e.symm
      exact row_ne_row hPY h (by decide) rfl))
    have hCX : X.rowIs w.heap.size 69 7 (cf c) := hCY.of_block (hgr.block _ hCY.lt (fun e => by have := (hr _ e.symm).1; omega))
    have hMX : MapG X bm H0 S' G' := by
      cases r with
      | none => exact mapG_below hMY (below_of_grown hgr)
      | some g =>
        obtain ⟨_, _, N, f, h⟩ := hr g rfl
        exact mapG_other hMY ⟨N, f, 69, h, by decide⟩ hgr
    have hBX : Below H0 w X := hBY.grown hgr (Nat.le_trans hH hBY.size) (fun g e => (hr g e).2.1)
    have hlen : (cs ++ [c]).length = n + 1 := by simp [hn]
    have hcells : allCells (cs ++ [c]) = allCells cs ++ chgCells c := by rw [allCells_append]; simp [allCells]
    have hne : p ≠ g' := row_ne_sl hPX hsl (by decide)
    obtain ⟨off, c', N, f, hv, hrest⟩ := id hsl
    subst hv
    refine ⟨some ⟨g', off, none⟩, c', rfl, (hrow_cells hPX).1, (hrow_cells hPX).2.2.2.2.2.2 0, ⟨some ⟨g', off, none⟩, c', G', g', ?_, ?_, hg', mapG_other hMX ⟨6, _, 65, hPX, by decide⟩ (⟨rfl, rfl, rfl, by rw [nblk_setCell]; exact Nat.le_refl _, fun k _ hk => blk_setCell_other _ _ _ _ (fun e => hk (by rw [e]))⟩), hBX.setCell (by exact hHp) _⟩, hCX.setOther (by
      exact (row_ne_row hPX hCX (by decide)).symm) _⟩
    · rw [hlen]
      exact hrow_set hPX 0 _ _ (fun j hj => by
        match j, hj with
        | 0, _ => rfl
        | 1, _ => rfl
        | 2, _ => rfl
        | 3, _ => rfl
        | 4, _ => rfl
        | 5, _ => rfl)
    · rw [hlen, hcells]
      exact slIs_of hsl (blk_setCell_other _ _ _ _ (fun e => hne e.symm))
  rcases hch with ⟨rfl, hv⟩ | ⟨g, hg, hs⟩
  · simp only [Value.slice.injEq] at hv
    obtain ⟨rfl, rfl, rfl⟩ := hv
    obtain ⟨v', X, g', hr, hsl, hgr, hg'⟩ := append_nil Y 63 63 69 i0 z69 7 96 Try.underlying63 hi hz0 hz1 hz2 rfl (by decide) (by decide) W.heap.size (chgCells c) rfl hnews hone
    obtain ⟨a', c', rfl, r1⟩ := fin (by simpa [allCells] using hsl) (by have := hBY.size; omega) hgr (fun g e => by cases e)
    exact ⟨a', c', X, hr, r1⟩
  · rw [hn] at hs
    obtain ⟨off, c0, N, f, e0, hrow, hrest⟩ := id hs
    have hsY : SlIs Y 69 7 (.slice aC n cap) n (allCells cs) g := ⟨off, c0, N, f, e0, hY69 g N f hrow, hrest⟩
    obtain ⟨v', X, g', hr, hsl, hgr, hg'⟩ := append_one (t := 63) (ty := 63) Try.underlying63 hi hz0 hz1 hz2 rfl (by decide) hsY (by omega) (by unfold maxLen; omega) W.heap.size (chgCells c) rfl hnews hone
    obtain ⟨a', c', rfl, r1⟩ := fin hsl (by rcases hg' with h | h; (rw [h]; exact hg); (have := hBY.size; omega)) hgr (fun q e => by
      obtain rfl := Option.some.inj e
      exact ⟨hrow.lt, hg, N, f, hY69 _ N f hrow⟩)
    exact ⟨a', c', X, hr, r1⟩

theorem main_cells {w W : World} {H0 p bm d : Nat} {start after size : Int} {cs : List Chg} {S : List Idx} (h : Main w H0 p bm start after size d cs S W) :
    ∃ a cap, W.cell? ⟨p, 0, none⟩ = some (.slice a cs.length cap) ∧ W.cell? ⟨p, 1, none⟩ = some (.int .u64 start) ∧ W.cell? ⟨p, 2, none⟩ = some (.int .u64 after) ∧ W.cell? ⟨p, 3, none⟩ = some (.int .i64 size) ∧ W.cell? ⟨p, 4, none⟩ = some (.int .i64 (d : Nat)) ∧ W.cell? ⟨p, 5, none⟩ = some (.map (some bm)) ∧ (∀ j, W.frozen? ⟨p, j, none⟩ = false) ∧ p < W.heap.size := by
  obtain ⟨a, cap, G, g, h1, _⟩ := h
  obtain ⟨p0, p1, p2, p3, p4, p5, pf⟩ := hrow_cells h1
  exact ⟨a, cap, p0, p1, p2, p3, p4, p5, pf, h1.lt⟩
theorem main_below {w W W' : World} {H0 p bm d : Nat} {start after size : Int} {cs : List Chg} {S : List Idx} (h : Main w H0 p bm start after size d cs S W) (hH : H0 ≤ w.heap.size) (hb : Below W.heap.size W W') : Main w H0 p bm start after size d cs S W' := by
  obtain ⟨a, cap, G, g, h1, h2, h3, h4, h5⟩ := h
  exact ⟨a, cap, G, g, row_below h1 hb, slIs_of h2 (hb.block _ (slIs_lt h2)), h3, mapG_below h4 hb, h5.trans (hb.mono (Nat.le_trans hH h5.size))⟩
theorem main_drew {w W : World} {H0 p bm d : Nat} {start after size : Int} {cs : List Chg} {S : List Idx} (h : Main w H0 p bm start after size d cs S W) : Main w H0 p bm start after size d cs S W.drew := by
  obtain ⟨a, cap, G, g, h1, h2, h3, h4, h5⟩ := h
  exact ⟨a, cap, G, g, h1, h2, h3, mapG_below h4 ((Below.refl _ _).drew), h5.drew⟩
theorem main_size {w W : World} {H0 p bm d : Nat} {start after size : Int} {cs : List Chg} {S : List Idx} (h : Main w H0 p bm start after size d cs S W) (hHp : H0 ≤ p) (size' : Int) : Main w H0 p bm start after size' d cs S (W.setCell ⟨p, 3, none⟩ (.int .i64 size')) := by
  obtain ⟨a, cap, G, g, h1, h2, h3, h4, h5⟩ := h
  refine ⟨a, cap, G, g, hrow_set h1 3 _ _ (fun j hj => ?_), slIs_of h2 (blk_setCell_other _ _ _ _ (fun e => row_ne_sl h1 h2 (by decide) e.symm)), h3, mapG_other h4 ⟨6, _, 65, h1, by decide⟩ ⟨rfl, rfl, rfl, by rw [nblk_setCell]; exact Nat.le_refl _, fun k _ hk => blk_setCell_other _ _ _ _ (fun e => hk (by rw [e]))⟩, h5.setCell (by exact hHp) _⟩
  match j, hj with
  | 0, _ => rfl
  | 1, _ => rfl
  | 2, _ => rfl
  | 3, _ => rfl
  | 4, _ => rfl
  | 5, _ => rfl
end Go.Proofs.Qxb6603793a.hist
