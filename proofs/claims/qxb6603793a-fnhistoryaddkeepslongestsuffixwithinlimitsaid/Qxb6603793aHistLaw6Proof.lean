/-
  Seat b6603793a: 'Rows.FnHistoryAddKeepsLongestSuffixWithinLimitSaid': the row out of the law's walk. The frame is the given shell's.
-/
import Derived.Test.Qxb6603793aHistQ
import Derived.OpenShut
import Derived.ShutString
import Derived.ChangeOld
import Derived.SliceStrings
namespace Go.Proofs.Qxb6603793a.row6
open Go.ChangeShapes Go.WideShapes Go.ChangeAt Go.RowKit Go.Deep
open Go.Proofs.Qxb6603793a.hist (U64 I64 Str Cells u64s i64s emp)
set_option linter.unusedVariables false

theorem own : ownKnob Try.prog.godebug = none := by kernel_rfl
theorem laidOut : laidOutB Try.prog = true := by kernel_rfl

theorem plain_addr {W : World} {y : Addr} {v : Value} (h : W.cell? (y.add 0) = some v) : ∃ b off, y = ⟨b, off, none⟩ := by
  obtain ⟨b, off, spot⟩ := y
  have hspot : spot = none := by simpa [Addr.add] using World.cell?_spot h
  subst hspot
  exact ⟨b, off, rfl⟩
/-- From the reading of an argument to what the walk is told of it. -/
theorem opened_u {H : Type} {enc : TypeId × Value → H} {W : World} {fuel : Nat} {a : Option Addr} {n c : Nat} {x : DataW H × List MemPlace}
    (hf : DataW.trod enc Try.prog W 0 (fun _ => true) true fuel 32 [.slice a n c] = some x) : ∃ F, U64 W a n F ∧ (a = none → n = 0 ∧ c = 0) := by
  rcases open_ints Try.underlying32 Try.underlying31 (by kernel_rfl) hf with ⟨hcs, _⟩ | ⟨y, l, cp, zs, hcs, _, hl, hm, hz, _, hcell, hwz⟩
  · simp at hcs
    obtain ⟨rfl, rfl, rfl⟩ := hcs
    exact ⟨fun _ => 0, ⟨fun h => absurd h (Nat.lt_irrefl _), fun _ _ => rfl⟩, fun _ => ⟨rfl, rfl⟩⟩
  · simp at hcs
    obtain ⟨rfl, rfl, rfl⟩ := hcs
    have hz' : zs.length = c := by simpa using hz
    refine ⟨fun i => if i < n then zs.getD i 0 else 0, ⟨fun hn => ?_, fun j hj => if_neg (by omega)⟩, fun h => by cases h⟩
    obtain ⟨b, off, rfl⟩ := plain_addr (hcell 0 (by omega))
    refine ⟨b, off, rfl, fun i hi => ?_⟩
    have h1 := hcell i (by omega)
    rw [add_plain] at h1
    rw [h1]
    simp [u64s, hi]
theorem opened_i {H : Type} {enc : TypeId × Value → H} {W : World} {fuel : Nat} {a : Option Addr} {n c : Nat} {x : DataW H × List MemPlace}
    (hf : DataW.trod enc Try.prog W 0 (fun _ => true) true fuel 56 [.slice a n c] = some x) : ∃ F, I64 W a n F ∧ (a = none → n = 0 ∧ c = 0) := by
  rcases open_ints Try.underlying56 Try.underlying2 (by kernel_rfl) hf with ⟨hcs, _⟩ | ⟨y, l, cp, zs, hcs, _, hl, hm, hz, _, hcell, hwz⟩
  · simp at hcs
    obtain ⟨rfl, rfl, rfl⟩ := hcs
    exact ⟨fun _ => 0, ⟨fun h => absurd h (Nat.lt_irrefl _), fun _ _ => rfl⟩, fun _ => ⟨rfl, rfl⟩⟩
  · simp at hcs
    obtain ⟨rfl, rfl, rfl⟩ := hcs
    have hz' : zs.length = c := by simpa using hz
    refine ⟨fun i => if i < n then zs.getD i 0 else 0, ⟨fun hn => ?_, fun j hj => if_neg (by omega)⟩, fun h => by cases h⟩
    obtain ⟨b, off, rfl⟩ := plain_addr (hcell 0 (by omega))
    refine ⟨b, off, rfl, fun i hi => ?_⟩
    have h1 := hcell i (by omega)
    rw [add_plain] at h1
    rw [h1]
    simp [i64s, hi]
theorem opened_s {H : Type} {enc : TypeId × Value → H} {W : World} {fuel : Nat} {a : Option Addr} {n c : Nat} {x : DataW H × List MemPlace}
    (hf : DataW.trod enc Try.prog W 0 (fun _ => true) true fuel 33 [.slice a n c] = some x) : ∃ F, Str W a n F ∧ (a = none → n = 0 ∧ c = 0) := by
  rcases open_strings Try.underlying33 Try.underlying9 (by kernel_rfl) hf with ⟨hcs, _⟩ | ⟨y, l, cp, zs, hcs, _, hl, hm, hz, _, hcell, hwz⟩
  · simp at hcs
    obtain ⟨rfl, rfl, rfl⟩ := hcs
    exact ⟨fun _ => emp, ⟨fun h => absurd h (Nat.lt_irrefl _), fun _ _ => rfl⟩, fun _ => ⟨rfl, rfl⟩⟩
  · simp at hcs
    obtain ⟨rfl, rfl, rfl⟩ := hcs
    have hz' : zs.length = c := by simpa using hz
    refine ⟨fun i => if i < n then zs.getD i ByteArray.empty else emp, ⟨fun hn => ?_, fun j hj => if_neg (by omega)⟩, fun h => by cases h⟩
    obtain ⟨b, off, rfl⟩ := plain_addr (hcell 0 (by omega))
    refine ⟨b, off, rfl, fun i hi => ?_⟩
    have h1 := hcell i (by omega)
    rw [add_plain] at h1
    rw [h1]
    simp [hist.strs, hi]

set_option maxRecDepth 100000 in
theorem lifted (os : Os) (started : os.Started) (H : Type) (enc : TypeId × Value → H) :
    ReturnsInHanded {} Try.checked os 6 .any (Rows.fnHistoryAddKeepsLongestSuffixWithinLimitSpec.pre6 enc Try.prog Try.f6 Rows.fnHistoryAddKeepsLongestSuffixWithinLimitRow.domain false) (Rows.fnHistoryAddKeepsLongestSuffixWithinLimitSpec.post enc Try.prog Try.f6 false true false false) := by
  refine returnsInHanded_of_change (C := Try.checked) own started (by kernel_rfl) Try.func6
    (ChangeSpec.witness6 (enc := enc) (C := Try.checked) false ⟨#[], #[.int .u64 0, .int .u64 0, .slice none 0 0, .slice none 0 0, .slice none 0 0, .slice none 0 0, .slice none 0 0, .slice none 0 0, .slice none 0 0, .slice none 0 0, .int .i64 0], []⟩ 8 (by kernel_rfl) (by kernel_rfl) (by kernel_rfl) (by kernel_rfl)) ?_
  intro W base args ds gs before hval0 hW hcnd _
  have hval : ∀ (j : Nat) t v, Try.f6.params[j]? = some t → args[j]? = some v → Value.okWide Try.prog W .any base t v := hval0
  have hW' := hW
  obtain ⟨p, q, hA0, hV, rfl, hfz, hnd⟩ := hW
  have hA : DataW.TrodAll enc Try.prog W 0 (fun _ => true) true Try.f6.params.toList args.toList ds p := hA0
  rw [Try.params6] at hA hval
  obtain ⟨v0, vs0, d0, ds0, p0, q0, hargs, rfl, rfl, h0, r0⟩ := trodAll_cons hA
  obtain ⟨v1, vs1, d1, ds1, p1, q1, rfl, rfl, rfl, h1, r1⟩ := trodAll_cons r0
  obtain ⟨v2, vs2, d2, ds2, p2, q2, rfl, rfl, rfl, h2, r2⟩ := trodAll_cons r1
  obtain ⟨v3, vs3, d3, ds3, p3, q3, rfl, rfl, rfl, h3, r3⟩ := trodAll_cons r2
  obtain ⟨v4, vs4, d4, ds4, p4, q4, rfl, rfl, rfl, h4, r4⟩ := trodAll_cons r3
  obtain ⟨v5, vs5, d5, ds5, p5, q5, rfl, rfl, rfl, h5, r5⟩ := trodAll_cons r4
  obtain ⟨v6, vs6, d6, ds6, p6, q6, rfl, rfl, rfl, h6, r6⟩ := trodAll_cons r5
  obtain ⟨v7, vs7, d7, ds7, p7, q7, rfl, rfl, rfl, h7, r7⟩ := trodAll_cons r6
  obtain ⟨v8, vs8, d8, ds8, p8, q8, rfl, rfl, rfl, h8, r8⟩ := trodAll_cons r7
  obtain ⟨v9, vs9, d9, ds9, p9, q9, rfl, rfl, rfl, h9, r9⟩ := trodAll_cons r8
  obtain ⟨v10, vs10, d10, ds10, p10, q10, rfl, rfl, rfl, h10, r10⟩ := trodAll_cons r9
  obtain ⟨rfl, rfl, rfl⟩ := trodAll_nil r10
  obtain rfl : args = #[v0, v1, v2, v3, v4, v5, v6, v7, v8, v9, v10] := by cases args; simp_all
  obtain ⟨rfl, rfl⟩ := trodVars_none hV
  obtain ⟨a0, rfl, rfl, rfl, w0⟩ := open_int Try.underlying31 (hval 0 31 v0 rfl rfl) h0
  obtain ⟨a1, rfl, rfl, rfl, w1⟩ := open_int Try.underlying31 (hval 1 31 v1 rfl rfl) h1
  obtain ⟨a2, len2, cap2, rfl⟩ := okWide_slice Try.underlying32 (hval 2 32 v2 rfl rfl)
  have k2 := h2
  have lt2 : ∀ x ∈ p2, x.block < W.heap.size := by obtain ⟨m, hm⟩ := k2; exact DataW.trod_lt m _ _ _ hm
  obtain ⟨F2, w2, z2⟩ : ∃ F, U64 W a2 len2 F ∧ (a2 = none → len2 = 0 ∧ cap2 = 0) := by
    obtain ⟨fuel, hf⟩ := h2
    exact opened_u (by simpa [Value.cells] using hf)
  obtain ⟨a3, len3, cap3, rfl⟩ := okWide_slice Try.underlying33 (hval 3 33 v3 rfl rfl)
  have k3 := h3
  have lt3 : ∀ x ∈ p3, x.block < W.heap.size := by obtain ⟨m, hm⟩ := k3; exact DataW.trod_lt m _ _ _ hm
  obtain ⟨F3, w3, z3⟩ : ∃ F, Str W a3 len3 F ∧ (a3 = none → len3 = 0 ∧ cap3 = 0) := by
    obtain ⟨fuel, hf⟩ := h3
    exact opened_s (by simpa [Value.cells] using hf)
  obtain ⟨a4, len4, cap4, rfl⟩ := okWide_slice Try.underlying33 (hval 4 33 v4 rfl rfl)
  have k4 := h4
  have lt4 : ∀ x ∈ p4, x.block < W.heap.size := by obtain ⟨m, hm⟩ := k4; exact DataW.trod_lt m _ _ _ hm
  obtain ⟨F4, w4, z4⟩ : ∃ F, Str W a4 len4 F ∧ (a4 = none → len4 = 0 ∧ cap4 = 0) := by
    obtain ⟨fuel, hf⟩ := h4
    exact opened_s (by simpa [Value.cells] using hf)
  obtain ⟨a5, len5, cap5, rfl⟩ := okWide_slice Try.underlying33 (hval 5 33 v5 rfl rfl)
  have k5 := h5
  have lt5 : ∀ x ∈ p5, x.block < W.heap.size := by obtain ⟨m, hm⟩ := k5; exact DataW.trod_lt m _ _ _ hm
  obtain ⟨F5, w5, z5⟩ : ∃ F, Str W a5 len5 F ∧ (a5 = none → len5 = 0 ∧ cap5 = 0) := by
    obtain ⟨fuel, hf⟩ := h5
    exact opened_s (by simpa [Value.cells] using hf)
  obtain ⟨a6, len6, cap6, rfl⟩ := okWide_slice Try.underlying33 (hval 6 33 v6 rfl rfl)
  have k6 := h6
  have lt6 : ∀ x ∈ p6, x.block < W.heap.size := by obtain ⟨m, hm⟩ := k6; exact DataW.trod_lt m _ _ _ hm
  obtain ⟨F6, w6, z6⟩ : ∃ F, Str W a6 len6 F ∧ (a6 = none → len6 = 0 ∧ cap6 = 0) := by
    obtain ⟨fuel, hf⟩ := h6
    exact opened_s (by simpa [Value.cells] using hf)
  obtain ⟨a7, len7, cap7, rfl⟩ := okWide_slice Try.underlying33 (hval 7 33 v7 rfl rfl)
  have k7 := h7
  have lt7 : ∀ x ∈ p7, x.block < W.heap.size := by obtain ⟨m, hm⟩ := k7; exact DataW.trod_lt m _ _ _ hm
  obtain ⟨F7, w7, z7⟩ : ∃ F, Str W a7 len7 F ∧ (a7 = none → len7 = 0 ∧ cap7 = 0) := by
    obtain ⟨fuel, hf⟩ := h7
    exact opened_s (by simpa [Value.cells] using hf)
  obtain ⟨a8, len8, cap8, rfl⟩ := okWide_slice Try.underlying32 (hval 8 32 v8 rfl rfl)
  have k8 := h8
  have lt8 : ∀ x ∈ p8, x.block < W.heap.size := by obtain ⟨m, hm⟩ := k8; exact DataW.trod_lt m _ _ _ hm
  obtain ⟨F8, w8, z8⟩ : ∃ F, U64 W a8 len8 F ∧ (a8 = none → len8 = 0 ∧ cap8 = 0) := by
    obtain ⟨fuel, hf⟩ := h8
    exact opened_u (by simpa [Value.cells] using hf)
  obtain ⟨a9, len9, cap9, rfl⟩ := okWide_slice Try.underlying32 (hval 9 32 v9 rfl rfl)
  have k9 := h9
  have lt9 : ∀ x ∈ p9, x.block < W.heap.size := by obtain ⟨m, hm⟩ := k9; exact DataW.trod_lt m _ _ _ hm
  obtain ⟨F9, w9, z9⟩ : ∃ F, U64 W a9 len9 F ∧ (a9 = none → len9 = 0 ∧ cap9 = 0) := by
    obtain ⟨fuel, hf⟩ := h9
    exact opened_u (by simpa [Value.cells] using hf)
  obtain ⟨a10, rfl, rfl, rfl, w10⟩ := open_int Try.underlying2 (hval 10 2 v10 rfl rfl) h10
  clear hA0 hval0
  refine (hist.law6_any a0 a1 a2 a3 a4 a5 a6 a7 a8 a9 len2 cap2 len3 cap3 len4 cap4 len5 cap5 len6 cap6 len7 cap7 len8 cap8 len9 cap9 F2 F8 F9 F3 F4 F5 F6 F7 a10 W w2 w3 w4 w5 w6 w7 w8 w9 z2 z3 z4 z5 z6 z7 z8 z9).mono fun e W' ⟨he, bel⟩ => ?_
  subst he
  exact ⟨_, rfl, _, _, _, [], _, [], hW', trodAll_mk1 (shut_bool Try.underlying4 _), (trodAll_cons_mk (shut_int Try.underlying31 w0) (trodAll_cons_mk (shut_int Try.underlying31 w1) (trodAll_cons_mk (Below.trod laidOut (by kernel_rfl) (of_decide_eq_true (by kernel_rfl)) k2 bel lt2) (trodAll_cons_mk (Below.trod laidOut (by kernel_rfl) (of_decide_eq_true (by kernel_rfl)) k3 bel lt3) (trodAll_cons_mk (Below.trod laidOut (by kernel_rfl) (of_decide_eq_true (by kernel_rfl)) k4 bel lt4) (trodAll_cons_mk (Below.trod laidOut (by kernel_rfl) (of_decide_eq_true (by kernel_rfl)) k5 bel lt5) (trodAll_cons_mk (Below.trod laidOut (by kernel_rfl) (of_decide_eq_true (by kernel_rfl)) k6 bel lt6) (trodAll_cons_mk (Below.trod laidOut (by kernel_rfl) (of_decide_eq_true (by kernel_rfl)) k7 bel lt7) (trodAll_cons_mk (Below.trod laidOut (by kernel_rfl) (of_decide_eq_true (by kernel_rfl)) k8 bel lt8) (trodAll_cons_mk (Below.trod laidOut (by kernel_rfl) (of_decide_eq_true (by kernel_rfl)) k9 bel lt9) (trodAll_cons_mk (shut_int Try.underlying2 w10) trodAll_mk0))))))))))), rfl, bel.frame _, fun h => by cases h⟩

theorem over : Rows.fnHistoryAddKeepsLongestSuffixWithinLimitRow.holds Try.pinned (OpenSpec.ofChange Rows.fnHistoryAddKeepsLongestSuffixWithinLimitSpec) :=
  OpenClaim.holds_of_wide 6 Try.f6 rfl rfl rfl rfl rfl rfl rfl ⟨rfl, rfl, rfl, rfl, rfl⟩ rfl rfl rfl rfl rfl (by kernel_rfl) Try.func6 (by kernel_rfl)
    (of_decide_eq_true (by kernel_rfl)) (by unfold Func.isWrapper; first | (rw [if_pos (by decide +kernel)]; kernel_rfl) | (rw [if_neg (by decide +kernel)]; exact ⟨rfl, rfl⟩))
    (fun os started H enc _ => lifted os started H enc)

end Go.Proofs.Qxb6603793a.row6
namespace Go.Proofs.Qxb6603793a
/-- THE STATEMENT -/
theorem fnHistoryAddKeepsLongestSuffixWithinLimit_proved : Rows.FnHistoryAddKeepsLongestSuffixWithinLimitSaid := row6.over
end Go.Proofs.Qxb6603793a
