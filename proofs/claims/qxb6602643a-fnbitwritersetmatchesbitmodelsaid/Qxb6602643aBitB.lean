/-
  Seat b6602643a: (*bitWriter).set (21), walked: no growth and growth, one word written or two.
-/
import Derived.Test.Qxb6602643aBitA
import Derived.Laws.CopyOwn
import Derived.BigRegion
namespace Go.Proofs.Qxb6602643a.bit
open Go.RowKit Go.Deep

/-- Nothing has turned but blocks g and p, and what is new. -/
def Kept2 (g p : Nat) (w w' : World) : Prop :=
  w'.os = w.os ∧ w'.tape = w.tape ∧ w'.output = w.output ∧ w.heap.size ≤ w'.heap.size ∧ ∀ b, b < w.heap.size → b ≠ g → b ≠ p → w'.heap[b]? = w.heap[b]?
theorem kept2_refl (g p : Nat) (w : World) : Kept2 g p w w := ⟨rfl, rfl, rfl, Nat.le_refl _, fun _ _ _ _ => rfl⟩
theorem kept2_drew {g p : Nat} {w w' : World} (h : Kept2 g p w w') : Kept2 g p w w'.drew := h
theorem kept2_set {g p : Nat} {w w' : World} (h : Kept2 g p w w') {a : Addr} (ha : a.block = g ∨ a.block = p ∨ w.heap.size ≤ a.block) (v : Value) : Kept2 g p w (w'.setCell a v) := by
  obtain ⟨h1, h2, h3, h4, h5⟩ := h
  refine ⟨h1, h2, h3, by rw [nblk_setCell]; exact h4, fun b hb hg hp => ?_⟩
  rw [blk_setCell_other _ _ _ _ (by omega)]
  exact h5 b hb hg hp
theorem kept2_below {g p : Nat} {w w' : World} (h : Below w.heap.size w w') : Kept2 g p w w' := ⟨h.os, h.tape, h.output, h.size, fun b hb _ _ => h.block b hb⟩
theorem below_kept2 {g p B : Nat} {w w' : World} (h : Kept2 g p w w') (hB : B ≤ w.heap.size) (hg : B ≤ g) (hp : B ≤ p) : Below B w w' :=
  ⟨h.1, h.2.1, h.2.2.1, h.2.2.2.1, fun b hb => h.2.2.2.2 b (by omega) (by omega) (by omega)⟩

/-- What the two stores write: as the walk spells it, over Nat. -/
def lowW (M s v x : Nat) : Nat := (x &&& (18446744073709551615 - M * 2 ^ s % 18446744073709551616)) ||| (v * 2 ^ s % 18446744073709551616)
def highW (M s v x : Nat) : Nat := (x &&& (18446744073709551615 - M / 2 ^ (64 - s))) ||| (v / 2 ^ (64 - s))
theorem wrap_nat (a : Nat) : IntKind.u64.wrap (a : Int) = ((a % 18446744073709551616 : Nat) : Int) := by rw [IntKind.wrap_u64]; omega
theorem low_eq (M s v x : Nat) (hx : x < 18446744073709551616) :
    bits BinOp.or IntKind.u64 (bits BinOp.andNot IntKind.u64 (x : Int) (IntKind.u64.wrap ((M : Int) * 2 ^ s))) (IntKind.u64.wrap ((v : Int) * 2 ^ s)) = (lowW M s v x : Nat) := by
  have e1 : ((M : Int) * 2 ^ s) = ((M * 2 ^ s : Nat) : Int) := by rw [Int.natCast_mul, Int.natCast_pow]; rfl
  have e2 : ((v : Int) * 2 ^ s) = ((v * 2 ^ s : Nat) : Int) := by rw [Int.natCast_mul, Int.natCast_pow]; rfl
  have m1 := Nat.mod_lt (M * 2 ^ s) (show 0 < 18446744073709551616 by decide)
  have m2 := Nat.mod_lt (v * 2 ^ s) (show 0 < 18446744073709551616 by decide)
  rw [e1, e2, wrap_nat, wrap_nat, u64_andNot_nat _ _ hx m1, u64_or_nat _ _ (Nat.lt_of_le_of_lt Nat.and_le_left hx) m2]
  rfl
theorem high_eq (M s v x : Nat) (hx : x < 18446744073709551616) (hM : M < 18446744073709551616) (hv : v < 18446744073709551616) :
    bits BinOp.or IntKind.u64 (bits BinOp.andNot IntKind.u64 (x : Int) ((M : Int) / 2 ^ (64 - s))) ((v : Int) / 2 ^ (64 - s)) = (highW M s v x : Nat) := by
  have e1 : ((M : Int) / 2 ^ (64 - s)) = ((M / 2 ^ (64 - s) : Nat) : Int) := by rw [Int.natCast_ediv, Int.natCast_pow]; rfl
  have e2 : ((v : Int) / 2 ^ (64 - s)) = ((v / 2 ^ (64 - s) : Nat) : Int) := by rw [Int.natCast_ediv, Int.natCast_pow]; rfl
  rw [e1, e2, u64_andNot_nat _ _ hx (Nat.lt_of_le_of_lt (Nat.div_le_self _ _) hM), u64_or_nat _ _ (Nat.lt_of_le_of_lt Nat.and_le_left hx) (Nat.lt_of_le_of_lt (Nat.div_le_self _ _) hv)]
  rfl

/-- The words behind the write: two are turned where it reaches into the next word. -/
def newW (M k s v wd : Nat) (Z : Nat → Nat) (i : Nat) : Nat :=
  if i = k then lowW M s v (Z k) else if i = k + 1 ∧ 64 < s + wd then highW M s v (Z (k + 1)) else Z i

/-- Behind the write: the writer at p leads to a row of words at g'. -/
def PostS (g p len at_ wd n : Nat) (N : Nat → Nat) (w : World) (e : Ending) (w' : World) : Prop :=
  e = .returned (.tuple #[]) ∧ Kept2 g p w w' ∧ ∃ g', g' ≠ p ∧ w'.cell? ⟨p, 0, none⟩ = some (.slice (some ⟨g', 0, none⟩) len len) ∧ w'.cell? ⟨p, 1, none⟩ = some (.int .u64 ((if n < at_ + wd then at_ + wd else n : Nat) : Nat)) ∧ w'.rowIs g' 30 len (fun i => .int .u64 (N i : Nat))

theorem row_one {w : World} {g len k M s v wd : Nat} {Z : Nat → Nat} (h : w.rowIs g 30 len (fun i => .int .u64 (Z i : Nat))) (hov : s + wd ≤ 64) :
    (w.setCell ⟨g, k, none⟩ (.int .u64 (lowW M s v (Z k) : Nat))).rowIs g 30 len (fun i => .int .u64 (newW M k s v wd Z i : Nat)) := by
  refine (h.set k _).congr fun i hi => ?_
  unfold newW
  by_cases e : i = k
  · rw [if_pos e, if_pos e]
  · rw [if_neg e, if_neg e, if_neg (by omega)]
theorem row_two {w : World} {g len k M s v wd : Nat} {Z : Nat → Nat} (h : w.rowIs g 30 len (fun i => .int .u64 (Z i : Nat))) (hov : 64 < s + wd) :
    ((w.setCell ⟨g, k, none⟩ (.int .u64 (lowW M s v (Z k) : Nat))).setCell ⟨g, k + 1, none⟩ (.int .u64 (highW M s v (Z (k + 1)) : Nat))).rowIs g 30 len (fun i => .int .u64 (newW M k s v wd Z i : Nat)) := by
  refine ((h.set k _).set (k + 1) _).congr fun i hi => ?_
  unfold newW
  by_cases e : i = k
  · rw [if_neg (by omega), if_pos e, if_pos e]
  · by_cases e2 : i = k + 1
    · rw [if_pos e2, if_neg e, if_pos ⟨e2, hov⟩]
    · rw [if_neg e2, if_neg e, if_neg e, if_neg (fun h => e2 h.1)]

theorem kept_one {g p k : Nat} {w w0 : World} (h : Kept2 g p w0 w) (x y : Value) : Kept2 g p w0 ((w.setCell ⟨p, 1, none⟩ x).setCell ⟨g, k, none⟩ y).drew :=
  kept2_drew (kept2_set (a := ⟨g, k, none⟩) (kept2_set (a := ⟨p, 1, none⟩) h (.inr (.inl rfl)) x) (.inl rfl) y)
theorem kept_two {g p k : Nat} {w w0 : World} (h : Kept2 g p w0 w) (x y z : Value) : Kept2 g p w0 (((w.setCell ⟨p, 1, none⟩ x).setCell ⟨g, k, none⟩ y).setCell ⟨g, k + 1, none⟩ z).drew.drew :=
  kept2_drew (kept2_drew (kept2_set (a := ⟨g, k + 1, none⟩) (kept2_set (a := ⟨g, k, none⟩) (kept2_set (a := ⟨p, 1, none⟩) h (.inr (.inl rfl)) x) (.inl rfl) y) (.inl rfl) z))

set_option maxHeartbeats 1000000 in
/-- No growth. -/
theorem set_fits (p g len k s n at_ v wd M : Nat) (Z : Nat → Nat) (w : World) (hwd : 1 ≤ wd) (hwd2 : wd ≤ 64) (hat : at_ ≤ 1048576) (hv : v < 18446744073709551616) (hlen : len ≤ 1048576) (hZ : ∀ i, Z i < 18446744073709551616)
    (hk : (at_ : Int) / 64 = (k : Nat)) (hs : (at_ : Int) % 64 = (s : Nat)) (hM : (18446744073709551615 : Int) / 2 ^ (64 - wd) = (M : Nat)) (hM2 : M < 18446744073709551616)
    (hgp : g ≠ p) (c0 : w.cell? ⟨p, 0, none⟩ = some (.slice (some ⟨g, 0, none⟩) len len)) (c1 : w.cell? ⟨p, 1, none⟩ = some (.int .u64 n)) (f0 : ∀ j, w.frozen? ⟨p, j, none⟩ = false)
    (hr : w.rowIs g 30 len (fun i => .int .u64 (Z i : Nat))) (hfit : at_ + wd ≤ 64 * len) :
    Calls Try.prog 21 #[.pointer (some ⟨p, 0, none⟩), .int .u64 at_, .int .u64 v, .int .i64 wd] w (PostS g p len at_ wd n (newW M k s v wd Z) w) := by
  have hkl : k < len := by omega
  have hs64 : s < 64 := by omega
  have r0 : w.cell? ⟨g, k, none⟩ = some (.int .u64 (Z k : Nat)) := hr.cell hkl
  have r1 : ∀ j, w.frozen? ⟨g, j, none⟩ = false := hr.frozen
  have hZk := hZ k
  have hZk1 := hZ (k + 1)
  have hw0 : ((wd : Int) == 0) = false := beq_eq_false_iff_ne.2 (by omega)
  have H : Hid (w.rowIs g 30 len (fun i => .int .u64 (Z i : Nat))) := hr
  clear hr hZ
  by_cases hmx : n < at_ + wd
  · by_cases hov : s + wd ≤ 64
    · go_enter Try.func21, Try.ntmps21
      go_wp2
      go_region
      all_goals go_wp2
      all_goals go_end0
      rw [low_eq _ _ _ _ hZk]
      refine ⟨rfl, kept_one (kept2_refl _ _ _) _ _, g, hgp, ?_, ?_, ?_⟩
      · go_simp
      · go_simp
      · exact row_one (H.out.setOther (by exact hgp) _) hov
    · have hk1 : k + 1 < len := by omega
      have r2 : w.cell? ⟨g, k + 1, none⟩ = some (.int .u64 (Z (k + 1) : Nat)) := H.out.cell hk1
      go_enter Try.func21, Try.ntmps21
      go_wp2
      go_region
      all_goals go_wp2
      go_region
      all_goals go_wp2
      all_goals go_end0
      rw [low_eq _ _ _ _ hZk, high_eq _ _ _ _ hZk1 hM2 hv]
      refine ⟨rfl, kept_two (kept2_refl _ _ _) _ _ _, g, hgp, ?_, ?_, ?_⟩
      · go_simp
      · go_simp
      · exact row_two (H.out.setOther (by exact hgp) _) (by omega)
  · by_cases hov : s + wd ≤ 64
    · go_enter Try.func21, Try.ntmps21
      go_wp2
      go_region
      all_goals go_wp2
      all_goals go_end0
      rw [low_eq _ _ _ _ hZk]
      refine ⟨rfl, kept_one (kept2_refl _ _ _) _ _, g, hgp, ?_, ?_, ?_⟩
      · go_simp
      · go_simp
      · exact row_one (H.out.setOther (by exact hgp) _) hov
    · have hk1 : k + 1 < len := by omega
      have r2 : w.cell? ⟨g, k + 1, none⟩ = some (.int .u64 (Z (k + 1) : Nat)) := H.out.cell hk1
      go_enter Try.func21, Try.ntmps21
      go_wp2
      go_region
      all_goals go_wp2
      go_region
      all_goals go_wp2
      all_goals go_end0
      rw [low_eq _ _ _ _ hZk, high_eq _ _ _ _ hZk1 hM2 hv]
      refine ⟨rfl, kept_two (kept2_refl _ _ _) _ _ _, g, hgp, ?_, ?_, ?_⟩
      · go_simp
      · go_simp
      · exact row_two (H.out.setOther (by exact hgp) _) (by omega)

end Go.Proofs.Qxb6602643a.bit
