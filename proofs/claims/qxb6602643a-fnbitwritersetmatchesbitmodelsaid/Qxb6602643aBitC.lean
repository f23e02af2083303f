/-
  Seat b6602643a: (*bitWriter).set (21), growth; ZZBitWriterSet (12).
-/
import Derived.Test.Qxb6602643aBitB
namespace Go.Proofs.Qxb6602643a.bit
open Go.RowKit Go.Deep

/-- The old words, and zeros behind. -/
def padW (len : Nat) (Z : Nat → Nat) (i : Nat) : Nat := if i < len then Z i else 0

/-- The old words: nowhere, or a row at g. -/
def Old (w : World) (sp : Option Addr) (g len : Nat) (Z : Nat → Nat) : Prop := (sp = none → len = 0) ∧ (0 < len → sp = some ⟨g, 0, none⟩ ∧ w.rowIs g 30 len (fun i => .int .u64 (Z i : Nat)))

theorem size30 : (Try.prog.info? 30).map (·.size) = some 1 := by kernel_rfl

/-- make, then copy. -/
theorem run_copy (w : World) (sp : Option Addr) (g len nd : Nat) (Z : Nat → Nat) (h : Old w sp g len Z) (hl : len ≤ nd) :
    ∃ W, Sem.run Try.prog (Builtin.copy_ #[29, 29] 3 #[.slice (some ⟨w.heap.size, 0, none⟩) nd nd, .slice sp len len]) (w.alloc (.cells (madeCells #[.int .u64 0] nd) 30)) = .ok (.int .i64 len) W ∧
      Below w.heap.size w W ∧ W.rowIs w.heap.size 30 nd (fun i => .int .u64 (padW len Z i : Nat)) := by
  have hb : Below w.heap.size w (w.alloc (.cells (madeCells #[.int .u64 0] nd) 30)) := (Below.refl _ _).alloc (Nat.le_refl _) _
  cases sp with
  | none =>
    obtain rfl := h.1 rfl
    refine ⟨_, run_copy_nil (P := Try.prog) _ 29 29 3 30 _ nd nd Try.underlying29 (by rw [size30]; rfl), hb, ?_⟩
    exact (World.rowIs_made _ _ _ _).congr fun i _ => by simp [padW]
  | some a =>
    have hg : (w.alloc (.cells (madeCells #[.int .u64 0] nd) 30)).heap[w.heap.size]? = some (.cells (madeCells #[.int .u64 0] nd) 30 (0, 0)) := blk_alloc_new _ _
    have hcs : ((List.range len).map fun i => Value.int .u64 (Z i : Nat)).length = Nat.min len nd := by
      simp only [List.length_map, List.length_range]
      exact (Nat.min_eq_left hl).symm
    have hr := run_copy_row (P := Try.prog) (w.alloc (.cells (madeCells #[.int .u64 0] nd) 30)) 29 29 3 30 w.heap.size 0 nd nd a len len (madeCells #[.int .u64 0] nd) 30 ((List.range len).map fun i => Value.int .u64 (Z i : Nat)) Try.underlying29 size30 hg hcs ?_ ?_ ?_
    · have hv : goInt (((List.range len).map fun i => Value.int .u64 (Z i : Nat)).length : Nat) = .int .i64 len := by simp [goInt]
      rw [hv] at hr
      refine ⟨_, hr, below_setRow hb (Nat.le_refl _) _, ?_⟩
      refine ⟨_, setRow_heap _ _ _ _ _ _ hg, ?_, fun i hi => ?_⟩
      · simp [size_madeCells]; omega
      · rw [toList_madeCells_one]
        by_cases hil : i < len
        · have e : padW len Z i = Z i := if_pos hil
          simp only [e, List.take_zero, List.nil_append, List.getElem?_toArray]
          rw [List.getElem?_append_left (by simpa using hil)]
          simp [hil]
        · have e : padW len Z i = 0 := if_neg hil
          simp only [e]
          simp only [List.take_zero, List.nil_append, Nat.zero_add, List.length_map, List.length_range, List.drop_replicate, List.getElem?_toArray]
          rw [List.getElem?_append_right (by simp; omega)]
          simp only [List.length_map, List.length_range]
          rw [List.getElem?_replicate, if_pos (by omega)]
          rfl
    · intro j v hj
      have hjl : j < len := by
        have := (List.getElem?_eq_some_iff.1 hj).1
        simpa using this
      obtain ⟨ha, hrow⟩ := h.2 (by omega)
      obtain rfl := Option.some.inj ha
      rw [Addr.add_lit, Nat.zero_add, (hrow.alloc _).cell hjl]
      simpa [hjl] using hj
    · simp [size_madeCells]; omega
    · intro v hv
      obtain ⟨i, _, rfl⟩ := List.mem_map.1 hv
      rfl

theorem padW_lt {len : Nat} {Z : Nat → Nat} (h : ∀ i, Z i < 18446744073709551616) (i : Nat) : padW len Z i < 18446744073709551616 := by
  unfold padW
  split
  · exact h i
  · omega

theorem kept_g1 {g p k G : Nat} {w W : World} (h : Kept2 g p w W) (hG : w.heap.size ≤ G) (u x y : Value) : Kept2 g p w (((W.setCell ⟨p, 0, none⟩ u).setCell ⟨p, 1, none⟩ x).setCell ⟨G, k, none⟩ y).drew :=
  kept2_drew (kept2_set (a := ⟨G, k, none⟩) (kept2_set (a := ⟨p, 1, none⟩) (kept2_set (a := ⟨p, 0, none⟩) h (.inr (.inl rfl)) u) (.inr (.inl rfl)) x) (.inr (.inr hG)) y)
theorem kept_g2 {g p k G : Nat} {w W : World} (h : Kept2 g p w W) (hG : w.heap.size ≤ G) (u x y z : Value) : Kept2 g p w ((((W.setCell ⟨p, 0, none⟩ u).setCell ⟨p, 1, none⟩ x).setCell ⟨G, k, none⟩ y).setCell ⟨G, k + 1, none⟩ z).drew.drew :=
  kept2_drew (kept2_drew (kept2_set (a := ⟨G, k + 1, none⟩) (kept2_set (a := ⟨G, k, none⟩) (kept2_set (a := ⟨p, 1, none⟩) (kept2_set (a := ⟨p, 0, none⟩) h (.inr (.inl rfl)) u) (.inr (.inl rfl)) x) (.inr (.inr hG)) y) (.inr (.inr hG)) z))

set_option maxHeartbeats 1000000 in
theorem set_grows (p g len nd k s n at_ v wd M : Nat) (sp : Option Addr) (Z : Nat → Nat) (w : World) (hwd : 1 ≤ wd) (hwd2 : wd ≤ 64) (hat : at_ ≤ 1048576) (hv : v < 18446744073709551616) (hlen : len ≤ 1048576) (hZ : ∀ i, Z i < 18446744073709551616)
    (hk : (at_ : Int) / 64 = (k : Nat)) (hs : (at_ : Int) % 64 = (s : Nat)) (hM : (18446744073709551615 : Int) / 2 ^ (64 - wd) = (M : Nat)) (hM2 : M < 18446744073709551616) (hnd : ((at_ : Int) + wd + 63) / 64 = (nd : Nat))
    (c0 : w.cell? ⟨p, 0, none⟩ = some (.slice sp len len)) (c1 : w.cell? ⟨p, 1, none⟩ = some (.int .u64 n)) (f0 : ∀ j, w.frozen? ⟨p, j, none⟩ = false)
    (hr : Old w sp g len Z) (hfit : 64 * len < at_ + wd) :
    Calls Try.prog 21 #[.pointer (some ⟨p, 0, none⟩), .int .u64 at_, .int .u64 v, .int .i64 wd] w (PostS g p nd at_ wd n (newW M k s v wd (padW len Z)) w) := by
  have hkl : k < nd := by omega
  have hs64 : s < 64 := by omega
  have hpl : p < w.heap.size := World.block_lt_of_cell? _ _ c0
  have hw0 : ((wd : Int) == 0) = false := beq_eq_false_iff_ne.2 (by omega)
  obtain ⟨W, hcp, hB, hRow⟩ := run_copy w sp g len nd Z hr (by omega)
  have hmk := run_make_row' (P := Try.prog) 29 30 (.int .u64 0) 8 Try.underlying29 info30 rfl .i64 .i64 nd (by omega) (by omega)
  have c0' : W.cell? ⟨p, 0, none⟩ = some (.slice sp len len) := (hB.cell hpl).trans c0
  have c1' : W.cell? ⟨p, 1, none⟩ = some (.int .u64 n) := (hB.cell hpl).trans c1
  have f0' : ∀ j, W.frozen? ⟨p, j, none⟩ = false := fun j => (hB.frozen hpl).trans (f0 j)
  have hgp : w.heap.size ≠ p := by omega
  have r0 : W.cell? ⟨w.heap.size, k, none⟩ = some (.int .u64 (padW len Z k : Nat)) := hRow.cell hkl
  have r1 : ∀ j, W.frozen? ⟨w.heap.size, j, none⟩ = false := hRow.frozen
  have hZk := padW_lt (len := len) hZ k
  have hZk1 := padW_lt (len := len) hZ (k + 1)
  have H : Hid (W.rowIs w.heap.size 30 nd (fun i => .int .u64 (padW len Z i : Nat))) := hRow
  have HB : Hid (Below w.heap.size w W) := hB
  clear hr hZ hRow hB f0
  by_cases hmx : n < at_ + wd
  · by_cases hov : s + wd ≤ 64
    · go_enter Try.func21, Try.ntmps21
      go_wp2
      go_region
      all_goals go_wp2
      all_goals go_end0
      rw [low_eq _ _ _ _ hZk]
      refine ⟨rfl, kept_g1 (kept2_below HB.out) (Nat.le_refl _) _ _ _, w.heap.size, hgp, ?_, ?_, ?_⟩
      · go_simp
      · go_simp
      · exact row_one ((H.out.setOther (by exact hgp) _).setOther (by exact hgp) _) hov
    · have hk1 : k + 1 < nd := by omega
      have r2 : W.cell? ⟨w.heap.size, k + 1, none⟩ = some (.int .u64 (padW len Z (k + 1) : Nat)) := H.out.cell hk1
      go_enter Try.func21, Try.ntmps21
      go_wp2
      go_region
      all_goals go_wp2
      go_region
      all_goals go_wp2
      all_goals go_end0
      rw [low_eq _ _ _ _ hZk, high_eq _ _ _ _ hZk1 hM2 hv]
      refine ⟨rfl, kept_g2 (kept2_below HB.out) (Nat.le_refl _) _ _ _ _, w.heap.size, hgp, ?_, ?_, ?_⟩
      · go_simp
      · go_simp
      · exact row_two ((H.out.setOther (by exact hgp) _).setOther (by exact hgp) _) (by omega)
  · by_cases hov : s + wd ≤ 64
    · go_enter Try.func21, Try.ntmps21
      go_wp2
      go_region
      all_goals go_wp2
      all_goals go_end0
      rw [low_eq _ _ _ _ hZk]
      refine ⟨rfl, kept_g1 (kept2_below HB.out) (Nat.le_refl _) _ _ _, w.heap.size, hgp, ?_, ?_, ?_⟩
      · go_simp
      · go_simp
      · exact row_one ((H.out.setOther (by exact hgp) _).setOther (by exact hgp) _) hov
    · have hk1 : k + 1 < nd := by omega
      have r2 : W.cell? ⟨w.heap.size, k + 1, none⟩ = some (.int .u64 (padW len Z (k + 1) : Nat)) := H.out.cell hk1
      go_enter Try.func21, Try.ntmps21
      go_wp2
      go_region
      all_goals go_wp2
      go_region
      all_goals go_wp2
      all_goals go_end0
      rw [low_eq _ _ _ _ hZk, high_eq _ _ _ _ hZk1 hM2 hv]
      refine ⟨rfl, kept_g2 (kept2_below HB.out) (Nat.le_refl _) _ _ _ _, w.heap.size, hgp, ?_, ?_, ?_⟩
      · go_simp
      · go_simp
      · exact row_two ((H.out.setOther (by exact hgp) _).setOther (by exact hgp) _) (by omega)

end Go.Proofs.Qxb6602643a.bit
