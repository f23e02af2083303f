/-
  Seat b6002676a, FnAppendWithinSaturates: the walk of appendWithin (27).
-/
import Derived.Test.Qxb6002676aSatC
namespace Go.Proofs.Qxb6002676a.sat
open Go.RowKit Go.Deep

def sumTo (L : Nat → Nat) : Nat → Nat
  | 0 => 0
  | k + 1 => sumTo L k + L k
theorem sumTo_le (L : Nat → Nat) (n : Nat) (h : ∀ i, i < n → L i ≤ 1048576) : ∀ k, k ≤ n → sumTo L k ≤ k * 1048576
  | 0, _ => Nat.le_refl _
  | k + 1, hk => by
    have h1 := sumTo_le L n h k (by omega)
    have h2 := h k (by omega)
    show sumTo L k + L k ≤ _
    omega

/-- n entries of lengths Le, then those of lengths Lm. -/
def joinL (n : Nat) (Le Lm : Nat → Nat) (i : Nat) : Nat := if i < n then Le i else Lm (i - n)

/-- Entry k of 'more' would take the data past mx. -/
def Stop (n : Nat) (Le Lm : Nat → Nat) (mx : Int) (k : Nat) : Prop := 0 < n + k ∧ mx < ((sumTo Le n + sumTo Lm (k + 1) : Nat) : Int)

def EntsL (xs : List Value) (N : Nat) (L : Nat → Nat) : Prop := xs.length = N * 4 ∧ ∀ i, i < N → Ent4 (fun j => xs.getD j undef) i (L i)

/-- What appendWithin has gathered behind k rounds: the slice that came in, or one of its own. -/
def Out (w wr : World) (ge n k : Nat) (L : Nat → Nat) (g cap : Nat) : Prop :=
  ∃ xs, EntsL xs (n + k) L ∧ ((k = 0 ∧ g = ge ∧ cap = n ∧ wr.rowIs ge 44 (n * 4) (fun j => xs.getD j undef)) ∨ (0 < k ∧ wr.ownsRow w.heap.size 44 4 (.slice (some ⟨g, 0, none⟩) (n + k) cap) (n + k) xs))

def Post27 (w : World) (ge n m : Nat) (Le Lm : Nat → Nat) (mx : Int) (e : Ending) (w' : World) : Prop :=
  ∃ k g cap, e = .returned (.slice (some ⟨g, 0, none⟩) (n + k) cap) ∧ k ≤ m ∧ Below w.heap.size w w' ∧ (∀ i, i < k → ¬ Stop n Le Lm mx i) ∧ (k < m → Stop n Le Lm mx k) ∧ Out w w' ge n k (joinL n Le Lm) g cap

theorem ents_list {w : World} {g n : Nat} {L : Nat → Nat} (h : Ents w g n n L) : ∃ xs, EntsL xs n L ∧ w.rowIs g 44 (n * 4) (fun j => xs.getD j undef) := by
  obtain ⟨f, hf, hE⟩ := h
  have e : ∀ j, j < n * 4 → ((List.range (n * 4)).map f).getD j undef = f j := fun j hj => by simp [List.getD, hj]
  refine ⟨(List.range (n * 4)).map f, ⟨by simp, fun i hi => ?_⟩, hf.congr (fun j hj => (e j hj).symm)⟩
  obtain ⟨p, q, r, a, c, e0, e1, e2, e3⟩ := hE i hi
  exact ⟨p, q, r, a, c, (e _ (by omega)).trans e0, (e _ (by omega)).trans e1, (e _ (by omega)).trans e2, (e _ (by omega)).trans e3⟩

theorem out_start {w wr : World} {ge n : Nat} {Le Lm : Nat → Nat} (h : Ents w ge n n Le) (hb : Below w.heap.size w wr) : Out w wr ge n 0 (joinL n Le Lm) ge n := by
  obtain ⟨xs, h1, h2⟩ := ents_list h
  refine ⟨xs, ⟨h1.1, fun i hi => ?_⟩, .inl ⟨rfl, rfl, rfl, h2.of_block (hb.block _ h2.lt)⟩⟩
  have : joinL n Le Lm i = Le i := if_pos hi
  rw [this]
  exact h1.2 i hi

theorem entsL_snoc {xs : List Value} {N : Nat} {L : Nat → Nat} (h : EntsL xs N L) (p q r : Int) (a : Option Addr) (l c : Nat) (hl : L N = l) :
    EntsL (xs ++ [.int .u64 p, .int .u64 q, .int .u8 r, .slice a l c]) (N + 1) L := by
  obtain ⟨h1, h2⟩ := h
  refine ⟨by simp [h1]; omega, fun i hi => ?_⟩
  by_cases e : i = N
  · subst e
    exact ⟨p, q, r, a, c, by simp [List.getD, ← h1], by simp [List.getD, ← h1], by simp [List.getD, ← h1], by simp [List.getD, ← h1, hl]⟩
  · obtain ⟨p', q', r', a', c', e0, e1, e2, e3⟩ := h2 i (by omega)
    have g : ∀ j, j < xs.length → (xs ++ [Value.int .u64 p, .int .u64 q, .int .u8 r, .slice a l c]).getD j undef = xs.getD j undef := fun j hj => by simp [List.getD, List.getElem?_append_left hj]
    exact ⟨p', q', r', a', c', (g _ (by omega)).trans e0, (g _ (by omega)).trans e1, (g _ (by omega)).trans e2, (g _ (by omega)).trans e3⟩

theorem ownsRow_base {w : World} {B B' : Nat} {e : TypeId} {size : Nat} {v : Value} {n : Nat} {xs : List Value} (h : w.ownsRow B e size v n xs) (hB : B' ≤ B) : w.ownsRow B' e size v n xs := by
  obtain ⟨h1, h2⟩ := h
  refine ⟨h1, ?_⟩
  rcases h2 with h2 | ⟨g, cap, cur, hv, hg, r⟩
  · exact .inl h2
  · exact .inr ⟨g, cap, cur, hv, Nat.le_trans hB hg, r⟩

/-- What is gathered is one entry longer: a new row where the slice that came in was full, else as append goes on a row of one's own. -/
theorem wpList_append_out {w W : World} {ops : Array Oper} {rest : List Oper} {o : Oper} {act : Act} {Q : Exit → Act → World → Prop} (hg : o.guard = none) (s x : Operand)
    (hop : o.op = Op.call { callee := Callee.builtin Builtin.append, args := #[s, x], argTypes := #[37, 37] })
    {ge n k g cap : Nat} {L : Nat → Nat} (B : Nat) (p q r : Int) (a : Option Addr) (l c : Nat) (hs : act.eval s = .slice (some ⟨g, 0, none⟩) (n + k) cap) (hx : act.eval x = .slice (some ⟨B, 0, none⟩) 1 1)
    (c0 : W.cell? ⟨B, 0, none⟩ = some (.int .u64 p)) (c1 : W.cell? ⟨B, 1, none⟩ = some (.int .u64 q)) (c2 : W.cell? ⟨B, 2, none⟩ = some (.int .u8 r)) (c3 : W.cell? ⟨B, 3, none⟩ = some (.slice a l c))
    (hl : L (n + k) = l) (hO : Out w W ge n k L g cap) (hb : Below w.heap.size w W) (hn : n ≤ 4194304) (hk : k ≤ 4194304)
    (hK : ∀ g' cap' w', Out w w' ge n (k + 1) L g' cap' → Below w.heap.size w w' → wpList Try.prog ops Q rest (act.put o.dst (.slice (some ⟨g', 0, none⟩) (n + k + 1) cap')) w') :
    wpList Try.prog ops Q (o :: rest) act W := by
  obtain ⟨i0, hi, hz0, hz1, hz2⟩ := info_parts info44
  obtain ⟨xs, hE, hd⟩ := hO
  have hE' := entsL_snoc hE p q r a l c hl
  have hnews : ∀ j u, [Value.int .u64 p, .int .u64 q, .int .u8 r, .slice a l c][j]? = some u → W.cell? ((⟨B, 0, none⟩ : Addr).add j) = some u := by
    intro j u hj
    rw [Addr.add_lit]
    match j, hj with
    | 0, hj => simp at hj; subst hj; exact c0
    | 1, hj => simp at hj; subst hj; exact c1
    | 2, hj => simp at hj; subst hj; exact c2
    | 3, hj => simp at hj; subst hj; exact c3
    | j + 4, hj => simp at hj
  have hone : ∀ u ∈ [Value.int .u64 p, .int .u64 q, .int .u8 r, .slice a l c], u.oneCell' = true := by
    intro u hu
    simp at hu
    rcases hu with rfl | rfl | rfl | rfl <;> rfl
  have shape : ∀ {v' : Value} {w' : World}, w'.ownsRow w.heap.size 44 4 v' (n + k + 1) (xs ++ [Value.int .u64 p, .int .u64 q, .int .u8 r, .slice a l c]) → ∃ g' cap', v' = .slice (some ⟨g', 0, none⟩) (n + k + 1) cap' := by
    intro v' w' h
    rcases h.2 with ⟨_, h0⟩ | ⟨g', cap', _, hv, _⟩
    · omega
    · exact ⟨g', cap', hv⟩
  rcases hd with ⟨rfl, rfl, rfl, hrow⟩ | ⟨hk0, hown⟩
  · refine wpList_append_grows W hg s x 37 hop 44 i0 z44 4 48 Try.underlying37 hi hz0 hz1 hz2 rfl (by decide) (some ⟨g, 0, none⟩) (cap + 0) cap xs hs (fun h => by cases h) hE.1 ?_ ⟨B, 0, none⟩ 1 1 _ hx rfl hnews hone (by omega) (by unfold maxLen; omega) (by omega) ?_
    · intro b hb' j u hj
      obtain rfl := Option.some.inj hb'
      have hjl : j < xs.length := (List.getElem?_eq_some_iff.1 hj).1
      rw [Addr.add_lit, Nat.zero_add, hrow.cell (by rw [← Nat.add_zero cap, ← hE.1]; exact hjl)]
      simp [List.getD, hj]
    · intro v' w' hown' hgr
      have hown2 := ownsRow_base hown' hb.size
      obtain ⟨g', cap', rfl⟩ := shape hown2
      exact hK g' cap' w' ⟨_, hE', .inr ⟨by omega, hown2⟩⟩ (hb.grown hgr hb.size (fun _ h => by cases h))
  · refine wpList_append_own W hg s x 37 hop w.heap.size 44 i0 z44 4 48 Try.underlying37 hi hz0 hz1 hz2 rfl (by decide) _ (n + k) xs hs hown ⟨B, 0, none⟩ 1 1 _ hx rfl hnews hone (by unfold maxLen; omega) (by omega) hb.size ?_
    intro v' w' hown' hgr _
    obtain ⟨g', cap', rfl⟩ := shape hown'
    exact hK g' cap' w' ⟨_, hE', .inr ⟨by omega, hown'⟩⟩ (hb.grown hgr hb.size (fun j h => (hown.lt j h).1))

theorem out_alloc {w wr : World} {ge n k g cap : Nat} {L : Nat → Nat} (h : Out w wr ge n k L g cap) (o : Obj) : Out w (wr.alloc o) ge n k L g cap := by
  obtain ⟨xs, hE, hd⟩ := h
  refine ⟨xs, hE, ?_⟩
  rcases hd with ⟨h1, h2, h3, h4⟩ | ⟨h1, h2⟩
  · exact .inl ⟨h1, h2, h3, h4.alloc o⟩
  · exact .inr ⟨h1, h2.alloc o⟩

theorem sumTo_succ (L : Nat → Nat) (k : Nat) : sumTo L (k + 1) = sumTo L k + L k := rfl

set_option maxHeartbeats 400000 in
theorem within_any (ge gm n m : Nat) (mx : Int) (Le Lm : Nat → Nat) (w : World) (hn : n ≤ 2097152) (hm : m ≤ 1048576) (he : Ents w ge n n Le) (hme : Ents w gm m m Lm)
    (hLe : ∀ i, i < n → Le i ≤ 1048576) (hLm : ∀ i, i < m → Lm i ≤ 1048576) :
    Calls Try.prog 27 #[.slice (some ⟨ge, 0, none⟩) n n, .slice (some ⟨gm, 0, none⟩) m m, .int .i64 mx] w (Post27 w ge n m Le Lm mx) := by
  have He : Hid (Ents w ge n n Le) := he
  have Hm : Hid (Ents w gm m m Lm) := hme
  have Hse : Hid (∀ k, k ≤ n → sumTo Le k ≤ k * 1048576) := sumTo_le Le n hLe
  have Hsm : Hid (∀ k, k ≤ m → sumTo Lm k ≤ k * 1048576) := sumTo_le Lm m hLm
  have HLe : Hid (∀ i, i < n → Le i ≤ 1048576) := hLe
  have HLm : Hid (∀ i, i < m → Lm i ≤ 1048576) := hLm
  clear he hme hLe hLm
  go_enter Try.func27, Try.ntmps27
  go_wp2
  go_loopw [7, 14] (fun s i wr => ∃ k : Nat, k ≤ n ∧ i = .int .i64 k ∧ s = .int .i64 (sumTo Le k : Nat) ∧ Below w.heap.size w wr) (fun _ i _ => n - (intOf i).toNat)
  case atStart => exact ⟨0, Nat.zero_le _, rfl, rfl, Below.refl _ _⟩
  case round =>
    obtain ⟨k, hk, rfl, rfl, hb⟩ := hrel
    have hs := Hse.out k hk
    by_cases hlt : k < n
    · have hl := HLe.out k hlt
      obtain ⟨f, hf, hE⟩ := He.out
      have hgl := hf.lt
      obtain ⟨p, q, r, a, c, e0, e1, e2, e3⟩ := hE k hlt
      have o0 : wr.cell? ⟨ge, k * 4, none⟩ = some (.int .u64 p) := (hb.cell hgl).trans ((hf.cell (by omega)).trans (by rw [e0]))
      have o1 : wr.cell? ⟨ge, k * 4 + 1, none⟩ = some (.int .u64 q) := (hb.cell hgl).trans ((hf.cell (by omega)).trans (by rw [e1]))
      have o2 : wr.cell? ⟨ge, k * 4 + 2, none⟩ = some (.int .u8 r) := (hb.cell hgl).trans ((hf.cell (by omega)).trans (by rw [e2]))
      have o3 : wr.cell? ⟨ge, k * 4 + 3, none⟩ = some (.slice a (Le k) c) := (hb.cell hgl).trans ((hf.cell (by omega)).trans (by rw [e3]))
      clear e0 e1 e2 e3 hE hf
      have R := fun o => hb.alloc hb.size o
      go_wp2
      go_roundw
      case rel => exact ⟨k + 1, by omega, by go_num, by go_num, R _⟩
      case measure => simp [intOf]; omega
    · obtain rfl : n = k := by omega
      clear hlt
      have HO : Hid (Out w wr ge n 0 (joinL n Le Lm) ge n) := out_start He.out hb
      obtain ⟨i0, hi, hz0, hz1, hz2⟩ := info_parts info44
      have Hi : Hid (Try.prog.info? 44 = some i0 ∧ i0.zero = some z44 ∧ i0.size = 4 ∧ i0.bytes = 48) := ⟨hi, hz0, hz1, hz2⟩
      clear hi hz0 hz1 hz2
      go_wp2
      go_loopw [0, 7, 26] (fun v s i wr => ∃ k g cap : Nat, k ≤ m ∧ i = .int .i64 k ∧ s = .int .i64 (sumTo Le n + sumTo Lm k : Nat) ∧ v = .slice (some ⟨g, 0, none⟩) (n + k) cap ∧ Below w.heap.size w wr ∧
        (∀ j, j < k → ¬ Stop n Le Lm mx j) ∧ Out w wr ge n k (joinL n Le Lm) g cap) (fun _ _ i _ => m - (intOf i).toNat)
      case atStart => exact ⟨0, ge, n, Nat.zero_le _, rfl, rfl, rfl, hb, fun _ hj => absurd hj (Nat.not_lt_zero _), HO.out⟩
      case round =>
        clear HO hb
        obtain ⟨k, g, cap, hk, rfl, rfl, rfl, hb, hst, hO⟩ := hrel
        have HO : Hid (Out w wr ge n k (joinL n Le Lm) g cap) := hO
        have Hst : Hid (∀ j, j < k → ¬ Stop n Le Lm mx j) := hst
        clear hO hst
        have hs2 := Hsm.out k hk
        by_cases hlt : k < m
        · have hl := HLm.out k hlt
          obtain ⟨f, hf, hE⟩ := Hm.out
          have hgl := hf.lt
          obtain ⟨p, q, r, a, c, e0, e1, e2, e3⟩ := hE k hlt
          have o0 : wr.cell? ⟨gm, k * 4, none⟩ = some (.int .u64 p) := (hb.cell hgl).trans ((hf.cell (by omega)).trans (by rw [e0]))
          have o1 : wr.cell? ⟨gm, k * 4 + 1, none⟩ = some (.int .u64 q) := (hb.cell hgl).trans ((hf.cell (by omega)).trans (by rw [e1]))
          have o2 : wr.cell? ⟨gm, k * 4 + 2, none⟩ = some (.int .u8 r) := (hb.cell hgl).trans ((hf.cell (by omega)).trans (by rw [e2]))
          have o3 : wr.cell? ⟨gm, k * 4 + 3, none⟩ = some (.slice a (Lm k) c) := (hb.cell hgl).trans ((hf.cell (by omega)).trans (by rw [e3]))
          clear e0 e1 e2 e3 hE hf
          have hjl : joinL n Le Lm (n + k) = Lm k := by unfold joinL; rw [if_neg (by omega), Nat.add_sub_cancel_left]
          have Hjl : Hid (joinL n Le Lm (n + k) = Lm k) := hjl
          clear hjl
          have fin : Hid (¬ Stop n Le Lm mx k → ∀ j, j < k + 1 → ¬ Stop n Le Lm mx j) := fun h j hj => by
            by_cases e : j = k
            · subst e; exact h
            · exact Hst.out j (by omega)
          by_cases hz : n + k = 0
          · have dz : decide ((0 : Int) < (n : Int) + (k : Int)) = false := decide_eq_false (by omega)
            go_wp2_with (at_builtin; refine wpList_append_out rfl (.tmp 43) (.tmp 45) rfl (wr.heap.size + 1) p q r a (Lm k) c rfl rfl (by simp) (by simp) (by simp) (by simp) Hjl.out (out_alloc (out_alloc HO.out _) _) ((hb.alloc hb.size _).alloc (by simp; have := hb.size; omega) _) (by omega) (by omega) ?_)
            intro g' cap' w1 hO' hb'
            go_wp2
            go_roundw
            case rel => exact ⟨k + 1, g', cap', by omega, by go_num, by rw [sumTo_succ]; go_num, by rw [show n + (k + 1) = 1 from by omega], hb', fin.out (fun h => by have := h.1; omega), hO'⟩
            case measure => simp [intOf]; omega
          · by_cases hq : mx < ((sumTo Le n + sumTo Lm (k + 1) : Nat) : Int)
            · have hS : Hid (Stop n Le Lm mx k) := ⟨by omega, hq⟩
              rw [sumTo_succ] at hq
              have hO2 := out_alloc HO.out
              have hb2 := fun o => hb.alloc hb.size o
              go_wp2
              go_ret
              exact ⟨k, g, cap, rfl, hk, hb2 _, Hst.out, fun _ => hS.out, hO2 _⟩
            · have hS : Hid (¬ Stop n Le Lm mx k) := fun h => hq h.2
              rw [sumTo_succ] at hq
              go_wp2_with (at_builtin; refine wpList_append_out rfl (.tmp 43) (.tmp 45) rfl (wr.heap.size + 1) p q r a (Lm k) c rfl rfl (by simp) (by simp) (by simp) (by simp) Hjl.out (out_alloc (out_alloc HO.out _) _) ((hb.alloc hb.size _).alloc (by simp; have := hb.size; omega) _) (by omega) (by omega) ?_)
              intro g' cap' w1 hO' hb'
              go_wp2
              go_roundw
              case rel => exact ⟨k + 1, g', cap', by omega, by go_num, by rw [sumTo_succ]; go_num, rfl, hb', fin.out hS.out, hO'⟩
              case measure => simp [intOf]; omega
        · go_wp2
          go_ret
          obtain rfl : m = k := by omega
          exact ⟨m, g, cap, rfl, Nat.le_refl _, hb, Hst.out, fun h => absurd h (Nat.lt_irrefl _), HO.out⟩
end Go.Proofs.Qxb6002676a.sat
