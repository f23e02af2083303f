/-
  Seat b6603793a: contracts: changeCost (29), sameSubject (41), firstKeptOfSubject (32), the readers of a history (22 .. 27, 30, 33), ZZNewHistory (18).
-/
import Derived.Test.Qxb6603793aHistF2
import Derived.Test.Qxb6603793aHistH
import Derived.Deep.QuietTactic
import Derived.BigQuiet
import Derived.MapKept
namespace Go.Proofs.Qxb6603793a.hist
open Go.RowKit Go.Deep

theorem cost_any (a0 a1 a2 a3 : Option Addr) (n0 n1 n2 n3 c0 c1 c2 c3 : Nat) (K V L O : Nat → ByteArray) (i : Nat) (w : World) (h0 : Cells w a0 n0 (strs K)) (h1 : Cells w a1 n1 (strs V)) (h2 : Cells w a2 n2 (strs L)) (h3 : Cells w a3 n3 (strs O))
    (z0 : ∀ j, n0 ≤ j → K j = emp) (z1 : ∀ j, n1 ≤ j → V j = emp) (z2 : ∀ j, n2 ≤ j → L j = emp) (z3 : ∀ j, n3 ≤ j → O j = emp) (hs : (K i).size ≤ 1048576 ∧ (V i).size ≤ 1048576 ∧ (L i).size ≤ 1048576 ∧ (O i).size ≤ 1048576) :
    Calls Try.prog 29 #[.slice a0 n0 c0, .slice a1 n1 c1, .slice a2 n2 c2, .slice a3 n3 c3, .int .i64 i] w fun e w' => e = .returned (.int .i64 ((K i).size + (V i).size + (L i).size + (O i).size + 128 : Nat)) ∧ w' = w := by
  have H0 := strAt_any a0 n0 c0 K i w h0 z0
  have H1 := strAt_any a1 n1 c1 V i w h1 z1
  have H2 := strAt_any a2 n2 c2 L i w h2 z2
  have H3 := strAt_any a3 n3 c3 O i w h3 z3
  have J0 : Hid _ := H0
  have J1 : Hid _ := H1
  have J2 : Hid _ := H2
  have J3 : Hid _ := H3
  clear H0 H1 H2 H3 h0 h1 h2 h3 z0 z1 z2 z3
  obtain ⟨s0, s1, s2, s3⟩ := hs
  go_enter Try.func29, Try.ntmps29
  go_wp2_with fail
  refine Calls.mono J0.out ?_
  rintro e w1 ⟨rfl, rfl⟩
  go_wp2_with fail
  refine Calls.mono J1.out ?_
  rintro e w1 ⟨rfl, rfl⟩
  go_wp2_with fail
  refine Calls.mono J2.out ?_
  rintro e w1 ⟨rfl, rfl⟩
  go_wp2_with fail
  refine Calls.mono J3.out ?_
  rintro e w1 ⟨rfl, rfl⟩
  go_wp2
  go_ret
  exact ⟨by go_num, rfl⟩

theorem ne_list {a b : ByteArray} (h : ¬ a = b) : ¬ a.toList = b.toList := fun e => h (by
  rw [ByteArray.toList_eq, ByteArray.toList_eq] at e
  cases a; cases b
  congr 1
  exact Array.toList_inj.1 e)
def same (K L : Nat → ByteArray) (i j : Nat) : Bool := decide (K i = K j) && decide (L i = L j)
theorem same_any (a0 a1 : Option Addr) (n0 n1 c0 c1 : Nat) (K L : Nat → ByteArray) (i j : Nat) (w : World) (h0 : Cells w a0 n0 (strs K)) (h1 : Cells w a1 n1 (strs L)) (z0 : ∀ j, n0 ≤ j → K j = emp) (z1 : ∀ j, n1 ≤ j → L j = emp) :
    Calls Try.prog 41 #[.slice a0 n0 c0, .slice a1 n1 c1, .int .i64 i, .int .i64 j] w fun e w' => e = .returned (.bool (same K L i j)) ∧ w' = w := by
  have J0 : Hid _ := strAt_any a0 n0 c0 K i w h0 z0
  have J1 : Hid _ := strAt_any a0 n0 c0 K j w h0 z0
  have J2 : Hid _ := strAt_any a1 n1 c1 L i w h1 z1
  have J3 : Hid _ := strAt_any a1 n1 c1 L j w h1 z1
  clear h0 h1 z0 z1
  go_enter Try.func41, Try.ntmps41
  go_wp2_with fail
  refine Calls.mono J0.out ?_
  rintro e w1 ⟨rfl, rfl⟩
  go_wp2_with fail
  refine Calls.mono J1.out ?_
  rintro e w1 ⟨rfl, rfl⟩
  by_cases e1 : K i = K j
  · go_wp2_with fail
    refine Calls.mono J2.out ?_
    rintro e w1 ⟨rfl, rfl⟩
    go_wp2_with fail
    refine Calls.mono J3.out ?_
    rintro e w1 ⟨rfl, rfl⟩
    by_cases e2 : L i = L j
    · go_wp2
      go_ret
      exact ⟨by simp [same, e1, e2], rfl⟩
    · have e3 := ne_list e2
      go_wp2
      go_ret
      exact ⟨by simp [same, e1, e2, e3], rfl⟩
  · have e3 := ne_list e1
    go_wp2
    go_ret
    exact ⟨by simp [same, e1], rfl⟩

/-- No change of the subject of change i among s .. i-1. -/
def firstK (K L : Nat → ByteArray) (s i : Nat) : Prop := ∀ j, s ≤ j → j < i → same K L i j = false
def PostF (K L : Nat → ByteArray) (s i : Nat) (w : World) (e : Ending) (w' : World) : Prop := w' = w ∧ ∃ b, e = .returned (.bool b) ∧ (b = true ↔ firstK K L s i)
theorem first_any (a0 a1 : Option Addr) (n0 n1 c0 c1 : Nat) (K L : Nat → ByteArray) (s i : Nat) (w : World) (h0 : Cells w a0 n0 (strs K)) (h1 : Cells w a1 n1 (strs L)) (z0 : ∀ j, n0 ≤ j → K j = emp) (z1 : ∀ j, n1 ≤ j → L j = emp) (hi : i ≤ 1048576) :
    Calls Try.prog 32 #[.slice a0 n0 c0, .slice a1 n1 c1, .int .i64 s, .int .i64 i] w (PostF K L s i w) := by
  have J : Hid (∀ j, Calls Try.prog 41 #[.slice a0 n0 c0, .slice a1 n1 c1, .int .i64 i, .int .i64 (j : Nat)] w fun e w' => e = .returned (.bool (same K L i j)) ∧ w' = w) := fun j => same_any a0 a1 n0 n1 c0 c1 K L i j w h0 h1 z0 z1
  clear h0 h1 z0 z1
  go_enter Try.func32, Try.ntmps32
  go_wp2
  go_loop [9] (fun x => ∃ j : Nat, s ≤ j ∧ x = .int .i64 j ∧ ∀ q, s ≤ q → q < j → same K L i q = false) (fun x => i - (intOf x).toNat)
  case atStart => exact ⟨s, Nat.le_refl _, rfl, fun q h1 h2 => by omega⟩
  case round =>
    obtain ⟨j, hj, rfl, hq⟩ := hrel
    have HQ : Hid (∀ q, s ≤ q → q < j → same K L i q = false) := hq
    clear hq
    by_cases hlt : j < i
    · cases hsm : same K L i j with
      | true =>
        have HSM : Hid (same K L i j = true) := hsm
        clear hsm
        go_wp2_with (go_at_call 41; refine Calls.mono (J.out j) ?_; rintro e w1 ⟨rfl, rfl⟩; rw [HSM.out])
        go_ret
        exact ⟨rfl, false, rfl, (fun h => by cases h), fun h => by have := h j hj hlt; rw [HSM.out] at this; cases this⟩
      | false =>
        have HSM : Hid (same K L i j = false) := hsm
        clear hsm
        go_wp2_with (go_at_call 41; refine Calls.mono (J.out j) ?_; rintro e w1 ⟨rfl, rfl⟩; rw [HSM.out])
        go_round
        case rel => exact ⟨j + 1, by omega, by go_num, fun q h1 h2 => by by_cases e : q = j; (subst e; exact HSM.out); exact HQ.out q h1 (by omega)⟩
        case measure => simp [intOf]; omega
    · go_wp2
      go_ret
      exact ⟨rfl, true, rfl, (fun _ q h1 h2 => HQ.out q h1 (by omega)), fun _ => rfl⟩

section
variable {w w' : World} {H0 p bm d : Nat} {start after : Int} {cs : List Chg} {S : List Idx}
theorem below_drewN' {B : Nat} {a w : World} (h : Below B a w) (n : Nat) : Below B a (w.drewN n) := h.trans ⟨rfl, rfl, rfl, Nat.le_refl _, fun _ _ => rfl⟩
theorem chOk_below {v : Value} (h : ChOk w H0 v cs) (hb : Below w.heap.size w w') : ChOk w' H0 v cs := by
  rcases h with h | ⟨g, h1, h2⟩
  · exact .inl h
  · exact .inr ⟨g, h1, slIs_of h2 (hb.block _ (slIs_lt h2))⟩
theorem hist_below (h : Hist w H0 p bm start after d cs S) (hb : Below w.heap.size w w') : Hist w' H0 p bm start after d cs S := by
  obtain ⟨a, cap, G, h1, h2, h3⟩ := h
  exact ⟨a, cap, G, row_below h1 hb, mapG_below h2 hb, chOk_below h3 hb⟩
theorem start_any (h : Hist w H0 p bm start after d cs S) : Calls Try.prog 22 #[.pointer (some ⟨p, 0, none⟩)] w fun e w' => e = .returned (.int .u64 start) ∧ w' = w := by
  obtain ⟨a, cap, G, h1, h2, h3⟩ := h
  obtain ⟨p0, p1, p2, p3, p4, p5, pf⟩ := hrow_cells h1
  clear h1 h2 h3
  go_enter Try.func22, Try.ntmps22
  go_wp2
  go_ret
  exact ⟨rfl, rfl⟩
theorem len_any (h : Hist w H0 p bm start after d cs S) : Calls Try.prog 23 #[.pointer (some ⟨p, 0, none⟩)] w fun e w' => e = .returned (.int .i64 (cs.length : Nat)) ∧ w' = w := by
  obtain ⟨a, cap, G, h1, h2, h3⟩ := h
  obtain ⟨p0, p1, p2, p3, p4, p5, pf⟩ := hrow_cells h1
  clear h1 h2 h3
  go_enter Try.func23, Try.ntmps23
  go_wp2
  go_ret
  exact ⟨rfl, rfl⟩
theorem dropped_any (h : Hist w H0 p bm start after d cs S) : Calls Try.prog 24 #[.pointer (some ⟨p, 0, none⟩)] w fun e w' => e = .returned (.int .i64 (d : Nat)) ∧ w' = w := by
  obtain ⟨a, cap, G, h1, h2, h3⟩ := h
  obtain ⟨p0, p1, p2, p3, p4, p5, pf⟩ := hrow_cells h1
  clear h1 h2 h3
  go_enter Try.func24, Try.ntmps24
  go_wp2
  go_ret
  exact ⟨rfl, rfl⟩
theorem hsize_any (h : Hist w H0 p bm start after d cs S) : Calls Try.prog 25 #[.pointer (some ⟨p, 0, none⟩)] w fun e w' => e = .returned (.int .i64 (costs cs : Nat)) ∧ w' = w := by
  obtain ⟨a, cap, G, h1, h2, h3⟩ := h
  obtain ⟨p0, p1, p2, p3, p4, p5, pf⟩ := hrow_cells h1
  clear h1 h2 h3
  go_enter Try.func25, Try.ntmps25
  go_wp2
  go_ret
  exact ⟨rfl, rfl⟩
theorem after_any (h : Hist w H0 p bm start after d cs S) : Calls Try.prog 26 #[.pointer (some ⟨p, 0, none⟩)] w fun e w' => e = .returned (.int .u64 after) ∧ w' = w := by
  obtain ⟨a, cap, G, h1, h2, h3⟩ := h
  obtain ⟨p0, p1, p2, p3, p4, p5, pf⟩ := hrow_cells h1
  clear h1 h2 h3
  go_enter Try.func26, Try.ntmps26
  go_wp2
  go_ret
  exact ⟨rfl, rfl⟩
theorem run_len62 {b : Nat} {es : Array MapEntry} {clock : Nat} {w : World} (ty : TypeId) (hb : w.heap[b]? = some (.map es clock)) : Sem.run Try.prog (Builtin.len_ #[62] ty #[.map (some b)]) w = .ok (.int .i64 (es.size : Nat)) w := by
  simp [Builtin.len_, run_underlying Try.underlying62, MapKept.run_getObj_map hb, goInt]
theorem ilen_any (h : Hist w H0 p bm start after d cs S) : Calls Try.prog 27 #[.pointer (some ⟨p, 0, none⟩)] w fun e w' => e = .returned (.int .i64 (S.length : Nat)) ∧ w' = w := by
  obtain ⟨a, cap, G, h1, h2, h3⟩ := h
  obtain ⟨p0, p1, p2, p3, p4, p5, pf⟩ := hrow_cells h1
  obtain ⟨I, hI, hlen, _⟩ := h2
  obtain ⟨es, clock, hb, hsz⟩ := len_map hI
  have hl := run_len62 3 hb
  rw [hsz, hlen] at hl
  clear h1 h3 hI hb
  go_enter Try.func27, Try.ntmps27
  go_wp2
  go_ret
  exact ⟨rfl, rfl⟩
def PostCh (w : World) (c : Chg) (e : Ending) (w' : World) : Prop := e = .returned (.tuple #[.int .u64 c.rev, .string c.key, .string c.val, .string c.lock, .string c.ev, .string c.hold, .int .u64 c.tok]) ∧ Below w.heap.size w w'
theorem change_any (h : Hist w H0 p bm start after d cs S) (k : Nat) (c : Chg) (hk : cs[k]? = some c) (hn : cs.length ≤ 1048577) : Calls Try.prog 30 #[.pointer (some ⟨p, 0, none⟩), .int .i64 k] w (PostCh w c) := by
  obtain ⟨a, cap, G, h1, h2, h3⟩ := h
  have hkl : k < cs.length := (List.getElem?_eq_some_iff.1 hk).1
  rcases h3 with ⟨rfl, _⟩ | ⟨g, hg, h3⟩
  · simp at hkl
  · obtain ⟨off, cap', N, f, e, hrow, h0, hnc, hm, hN, hxl, hx⟩ := id h3
    simp only [Value.slice.injEq] at e
    obtain ⟨rfl, _, rfl⟩ := e
    have hcap : cs.length * 7 ≤ cap * 7 := Nat.mul_le_mul_right _ hnc
    have hmc : ∀ j, j < 7 → w.cell? ⟨g, off + (k * 7 + j), none⟩ = some (cf c j) := fun j hj => by
      rw [hrow.cell (by omega), hx _ (by omega), allCells_get cs k j c hk hj]
    have hq0 : w.cell? ⟨g, off + k * 7, none⟩ = some (.int .u64 c.rev) := hmc 0 (by omega)
    have hq1 : w.cell? ⟨g, off + (k * 7 + 1), none⟩ = some (.string c.key) := hmc 1 (by omega)
    have hq2 : w.cell? ⟨g, off + (k * 7 + 2), none⟩ = some (.string c.val) := hmc 2 (by omega)
    have hq3 : w.cell? ⟨g, off + (k * 7 + 3), none⟩ = some (.string c.lock) := hmc 3 (by omega)
    have hq4 : w.cell? ⟨g, off + (k * 7 + 4), none⟩ = some (.string c.ev) := hmc 4 (by omega)
    have hq5 : w.cell? ⟨g, off + (k * 7 + 5), none⟩ = some (.string c.hold) := hmc 5 (by omega)
    have hq6 : w.cell? ⟨g, off + (k * 7 + 6), none⟩ = some (.int .u64 c.tok) := hmc 6 (by omega)
    rw [← Nat.add_assoc] at hq1 hq2 hq3 hq4 hq5 hq6
    obtain ⟨p0, p1, p2, p3, p4, p5, pf⟩ := hrow_cells h1
    clear h1 h2 h3 hrow hx hmc hk
    go_enter Try.func30, Try.ntmps30
    go_wp2
    go_quiet (fail)
    go_wp2
    exact bodyPost_ret (v := .tuple #[.int .u64 c.rev, .string c.key, .string c.val, .string c.lock, .string c.ev, .string c.hold, .int .u64 c.tok]) (by simp [results, Try.results30, go_sem]) rfl ⟨rfl, below_drewN' ((Below.refl _ _).alloc (Nat.le_refl _) _) _⟩
/-- The index's answer for a subject it holds. -/
def PostIx (w : World) (s : Idx) (e : Ending) (w' : World) : Prop := Below w.heap.size w w' ∧ ∃ g o cp, e = .returned (.tuple #[.slice (some ⟨g, o, none⟩) s.ps.length cp, .int .u64 s.bef, .bool true]) ∧ ∀ i q, s.ps[i]? = some q → w'.cell? ⟨g, o + i, none⟩ = some (.int .i64 (q : Nat))
theorem index_any (h : Hist w H0 p bm start after d cs S) (j : Nat) (s : Idx) (hj : S[j]? = some s) : Calls Try.prog 33 #[.pointer (some ⟨p, 0, none⟩), .string s.k, .string s.l] w (PostIx w s) := by
  obtain ⟨a, cap, G, h1, h2, h3⟩ := h
  obtain ⟨va, hs, hrun⟩ := mapG_some h2 hj
  obtain ⟨p0, p1, p2, p3, p4, p5, pf⟩ := hrow_cells h1
  obtain ⟨o, cp, N, f, rfl, hrow, h0, hnc, hm, hN, hxl, hx⟩ := hs
  have l1 : Sem.run Try.prog (Instr.lookup 62 (.map (some bm)) (.agg #[.string s.k, .string s.l]) true) w = _ := hrun true w rfl
  have hfin : Hid (∀ i q, s.ps[i]? = some q → w.cell? ⟨G j, o + i, none⟩ = some (.int .i64 (q : Nat))) := fun i q hi => by
    have hil : i < s.ps.length := (List.getElem?_eq_some_iff.1 hi).1
    rw [hrow.cell (by omega), hx i (by omega)]
    simp [ints, List.getD, hi]
  clear h1 h2 h3 hrun hrow hx hj
  go_enter Try.func33, Try.ntmps33
  go_wp2
  go_quiet (fail)
  go_wp2
  refine bodyPost_ret (v := .tuple #[.slice (some ⟨G j, o, none⟩) s.ps.length cp, .int .u64 s.bef, .bool true]) (by simp [results, Try.results33, go_sem]) rfl ⟨below_drewN' ((Below.refl _ _).alloc (Nat.le_refl _) _) _, G j, o, cp, rfl, fun i q hi => ?_⟩
  have h1 := hfin.out i q hi
  have hb : Below w.heap.size w ((w.alloc (.cells #[.slice (some ⟨G j, o, none⟩) s.ps.length cp, .int .u64 s.bef] 71)).drewN nq) := below_drewN' ((Below.refl _ _).alloc (Nat.le_refl _) _) _
  exact (hb.cell (World.block_lt_of_cell? _ _ h1)).trans h1
end
/-- ZZNewHistory. -/
def PostNew (w : World) (start after : Int) (e : Ending) (w' : World) : Prop := Below w.heap.size w w' ∧ ∃ p bm, e = .returned (.pointer (some ⟨p, 0, none⟩)) ∧ w.heap.size ≤ p ∧ w.heap.size ≤ bm ∧ Hist w' w.heap.size p bm start after 0 [] []
theorem hrow_new (W : World) (bm : Nat) (start after : Int) : (W.alloc (.cells #[.slice none 0 0, .int .u64 start, .int .u64 after, .int .i64 0, .int .i64 0, .map (some bm)] 65)).rowIs W.heap.size 65 6 (hf (.slice none ([] : List Chg).length 0) start after (costs [] : Nat) 0 bm) :=
  ⟨_, blk_alloc_new _ _, rfl, fun i hi => by
    match i, hi with
    | 0, _ => rfl
    | 1, _ => rfl
    | 2, _ => rfl
    | 3, _ => rfl
    | 4, _ => rfl
    | 5, _ => rfl⟩
theorem new_any (start after : Int) (w : World) : Calls Try.prog 18 #[.int .u64 start, .int .u64 after] w (PostNew w start after) := by
  have hmk := run_makeMap (P := Try.prog) 62 w
  go_enter Try.func18, Try.ntmps18
  go_wp2
  go_ret
  have hsz : (w.alloc (Obj.map #[] 0)).heap.size = w.heap.size + 1 := by simp
  have hb1 : Below w.heap.size w (w.alloc (Obj.map #[] 0)) := (Below.refl _ _).alloc (Nat.le_refl _) _
  have hrow := hrow_new (w.alloc (Obj.map #[] 0)) w.heap.size start after
  rw [hsz] at hrow
  refine ⟨hb1.alloc (by rw [hsz]; omega) _, w.heap.size + 1, w.heap.size, rfl, by omega, Nat.le_refl _, none, 0, fun _ => 0, hrow, ?_, .inl ⟨rfl, rfl⟩⟩
  refine ⟨[], ⟨#[], 0, ?_, rfl, fun e h => by simp at h, fun i j a b h => by simp at h⟩, rfl, fun i e s h => by simp at h, fun i j h => by simp at h, fun i h => by simp at h⟩
  rw [blk_alloc_lt _ _ _ (by rw [hsz]; omega)]
  exact blk_alloc_new _ _
end Go.Proofs.Qxb6603793a.hist
