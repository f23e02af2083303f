/-
  Seat b6603793a: the laws' inputs, plain, and one step of add in the laws' own words.
-/
import Derived.Test.Qxb6603793aHistL
namespace Go.Proofs.Qxb6603793a.hist
open Go.RowKit Go.Deep

/-- The changes that the inputs tell. -/
def mk (R : Nat → Int) (K V L E O : Nat → ByteArray) (T : Nat → Int) (t : Nat) : Chg := ⟨R t, K t, V t, L t, E t, O t, T t⟩
theorem mk_subj (R : Nat → Int) (K V L E O : Nat → ByteArray) (T : Nat → Int) : Subj (mk R K V L E O T) K L := fun _ => ⟨rfl, rfl⟩
/-- Slices of words. -/
structure U64 (w : World) (a : Option Addr) (n : Nat) (F : Nat → Int) : Prop where
  cells : Cells w a n (u64s F)
  out : ∀ j, n ≤ j → F j = 0
structure I64 (w : World) (a : Option Addr) (n : Nat) (F : Nat → Int) : Prop where
  cells : Cells w a n (i64s F)
  out : ∀ j, n ≤ j → F j = 0
theorem u64_below {w w' : World} {a : Option Addr} {n : Nat} {F : Nat → Int} (h : U64 w a n F) (hb : Below w.heap.size w w') : U64 w' a n F := ⟨cells_below h.cells hb, h.out⟩
theorem i64_below {w w' : World} {a : Option Addr} {n : Nat} {F : Nat → Int} (h : I64 w a n F) (hb : Below w.heap.size w w') : I64 w' a n F := ⟨cells_below h.cells hb, h.out⟩
theorem short_all {n : Nat} {F : Nat → ByteArray} (h : Short n F) (ho : ∀ j, n ≤ j → F j = emp) (j : Nat) : (F j).size ≤ 1048576 := by
  by_cases hj : j < n
  · exact h j hj
  · rw [ho j (by omega)]; exact Nat.zero_le _
theorem cost_mk {R : Nat → Int} {K V L E O : Nat → ByteArray} {T : Nat → Int} (h1 : ∀ j, (K j).size ≤ 1048576) (h2 : ∀ j, (V j).size ≤ 1048576) (h3 : ∀ j, (L j).size ≤ 1048576) (h4 : ∀ j, (O j).size ≤ 1048576) (j : Nat) : cost (mk R K V L E O T j) ≤ 8388608 := by
  have := h1 j
  have := h2 j
  have := h3 j
  have := h4 j
  simp only [cost, mk]
  omega
/-- The revision dropped up to. -/
def aft (after : Int) (c : Nat → Chg) : Nat → Int
  | 0 => after
  | d + 1 => (c d).rev
theorem afterOf_seg {after : Int} {c : Nat → Chg} {d t k : Nat} (hk : d + k ≤ t) : afterOf (aft after c d) (seg c d t) k = aft after c (d + k) := by
  cases k with
  | zero => rfl
  | succ k =>
    simp only [afterOf]
    rw [seg_get (by omega)]
    rfl
/-- A history of changes 0 .. t-1, the first d of them dropped. -/
structure At (w0 w : World) (p bm : Nat) (start after : Int) (c : Nat → Chg) (d t : Nat) (S : List Idx) : Prop where
  hist : Hist w w0.heap.size p bm start (aft after c d) d (seg c d t) S
  inv : Inv d (seg c d t) S
  below : Below w0.heap.size w0 w
  dt : d ≤ t
/-- What an add left, in the laws' own words. -/
structure Step (w0 w : World) (p bm : Nat) (start after limit : Int) (c : Nat → Chg) (d d' t : Nat) (S2 : List Idx) : Prop where
  at_ : At w0 w p bm start after c d' (t + 1) S2
  mono : d ≤ d'
  keep : d' ≤ t
  need : ∀ i, d ≤ i → i < d' → limit < (costs (seg c i (t + 1)) : Nat)
  fits : (costs (seg c d' (t + 1)) : Nat) ≤ limit ∨ d' = t
theorem at_below {w0 w w' : World} {p bm : Nat} {start after : Int} {c : Nat → Chg} {d t : Nat} {S : List Idx} (h : At w0 w p bm start after c d t S) (hb : Below w.heap.size w w') : At w0 w' p bm start after c d t S :=
  ⟨hist_below h.hist hb, h.inv, h.below.trans (hb.mono h.below.size), h.dt⟩
/-- ZZHistoryAdd, in the laws' own words; with the index's own turns. -/
theorem add_step {w0 w : World} {p bm : Nat} {start after : Int} {c : Nat → Chg} {d t : Nat} {S : List Idx} (h : At w0 w p bm start after c d t S) (hp : w0.heap.size ≤ p) (hbm : w0.heap.size ≤ bm) (ht : t ≤ 4096) (hc : ∀ j, cost (c j) ≤ 8388608) (bef limit : Int) :
    Calls Try.prog 19 #[.pointer (some ⟨p, 0, none⟩), .int .u64 (c t).rev, .string (c t).key, .string (c t).val, .string (c t).lock, .string (c t).ev, .string (c t).hold, .int .u64 (c t).tok, .int .u64 bef, .int .i64 limit] w fun e w' => e = .returned (.tuple #[]) ∧ ∃ d' S1 S2, Step w0 w' p bm start after limit c d d' t S2 ∧ AddRel S t (c t) bef S1 ∧ DropsRel S1 ((seg c d (t + 1)).take (d' - d)) S2 := by
  have hcs := costs_seg_le hc d t
  have hkl : (c t).key.size ≤ 8388608 ∧ (c t).lock.size ≤ 8388608 := by
    have := hc t
    unfold cost at this
    omega
  have hdt := h.dt
  have hm : t * 8388608 ≤ 4096 * 8388608 := Nat.mul_le_mul_right _ ht
  refine (zzadd_any h.hist h.inv (c t) bef limit (by unfold maxLen; omega) (by unfold maxLen; omega) (by omega) (by rw [seg_len]; omega) (fun s hs => ?_) h.below.size hbm hp (hc t) (by omega)).mono ?_
  · obtain ⟨j, hj⟩ := List.getElem?_of_mem hs
    rw [(h.inv.ps j s hj).1]
    have := posOf_len s.k s.l (seg c d t) d
    rw [seg_len] at this
    omega
  · rintro e w' ⟨rfl, k, S1, S2, h1, h2, h3, h4, h5, h6, h7, h8⟩
    rw [seg_snoc hdt] at h1 h2 h3 h5 h6 h7
    rw [seg_len] at h1 h3
    rw [seg_drop] at h3 h6 h7
    rw [afterOf_seg (by omega)] at h7
    have e1 : d + (seg c d t).length = t := by rw [seg_len]; omega
    rw [e1] at h4
    refine ⟨rfl, d + k, S1, S2, ⟨⟨h7, h6, h.below.trans h8, by omega⟩, by omega, by omega, fun i hi1 hi2 => ?_, ?_⟩, h4, ?_⟩
    · have := h2 (i - d) (by omega)
      rw [seg_drop] at this
      have e2 : d + (i - d) = i := by omega
      rw [e2] at this
      exact this
    · rcases h3 with h3 | h3
      · exact .inl h3
      · exact .inr (by omega)
    · have e3 : d + k - d = k := by omega
      rw [e3]
      exact h5
end Go.Proofs.Qxb6603793a.hist
