/-
  Seat b6002676a: 'Rows.FnAppendWithinSaturatesSaid': the row out of the law's walk. The frame is the guide's shell for a law, turned to two slices of slices of bytes and an int.
-/
import Derived.Test.Qxb6002676aSatE
import Derived.OpenShut
import Derived.ShutString
import Derived.ChangeOld
import Derived.Deep.Matrix
namespace Go.Proofs.Qxb6002676a.sat
open Go.ChangeShapes Go.WideShapes Go.ChangeAt Go.RowKit Go.Deep
set_option linter.unusedVariables false

theorem own : ownKnob Try.prog.godebug = none := by kernel_rfl
theorem laidOut : laidOutB Try.prog = true := by kernel_rfl
theorem cells42 : Try.prog.cellsOf 42 = 1 := by kernel_rfl
theorem cells5 : Try.prog.cellsOf 5 = 1 := by kernel_rfl

/-- From the reading of an argument to what the walk is told of it. -/
theorem arg_opened {H : Type} {enc : TypeId × Value → H} {W : World} {fuel : Nat} {a : Option Addr} {n c : Nat} {x : DataW H × List MemPlace}
    (hf : DataW.trod enc Try.prog W 0 (fun _ => true) true fuel 33 [.slice a n c] = some x) : ∃ A L C, ArgIs W a n c A L C := by
  rcases open_int_rows Try.underlying33 Try.underlying42 Try.underlying5 cells42 cells5 hf with ⟨hcs, _⟩ | ⟨y, len, cap, A, L, C, Z, hcs, _, hl, hm, _, hall⟩
  · simp at hcs
    obtain ⟨rfl, rfl, rfl⟩ := hcs
    exact ⟨fun _ => none, fun _ => 0, fun _ => 0, ⟨fun _ => ⟨rfl, rfl⟩, fun h => absurd h (Nat.lt_irrefl _), fun r hr => absurd hr (Nat.not_lt_zero _)⟩⟩
  · simp at hcs
    obtain ⟨rfl, rfl, rfl⟩ := hcs
    refine ⟨A, L, C, ⟨(fun h => by cases h), fun hn => ?_, fun r hr => ?_⟩⟩
    · obtain ⟨b, off, spot⟩ := y
      have hspot : spot = none := by simpa [Addr.add] using World.cell?_spot (hall 0 (by omega)).1
      subst hspot
      exact ⟨b, off, rfl, fun r hr => by rw [← add_plain]; exact (hall r (by omega)).1⟩
    · obtain ⟨_, q1, q2, q3, q4, q5, q6⟩ := hall r (by omega)
      refine ⟨fun h => by have := q5 h; omega, fun i hi => ?_⟩
      cases hA : A r with
      | none => have := q5 hA; omega
      | some z =>
        obtain ⟨_, hc⟩ := q6 z hA
        obtain ⟨b, off, spot⟩ := z
        have hspot : spot = none := by simpa [Addr.add] using World.cell?_spot (hc 0 (by omega))
        subst hspot
        exact ⟨b, off, _, rfl, by rw [← add_plain]; exact hc i (by omega)⟩

set_option maxRecDepth 100000 in
theorem lifted (os : Os) (started : os.Started) (H : Type) (enc : TypeId × Value → H) :
    ReturnsInHanded {} Try.checked os 8 .any (Rows.fnAppendWithinSaturatesSpec.pre6 enc Try.prog Try.f8 Rows.fnAppendWithinSaturatesRow.domain false) (Rows.fnAppendWithinSaturatesSpec.post enc Try.prog Try.f8 false true false false) := by
  refine returnsInHanded_of_change (C := Try.checked) own started (by kernel_rfl) Try.func8
    (ChangeSpec.witness6 (enc := enc) (C := Try.checked) false ⟨#[], #[.slice none 0 0, .slice none 0 0, .int .i64 0], []⟩ 8 (by kernel_rfl) (by kernel_rfl) (by kernel_rfl) (by kernel_rfl)) ?_
  intro W base args ds gs before hval0 hW hcnd _
  have hval : ∀ (j : Nat) t v, Try.f8.params[j]? = some t → args[j]? = some v → Value.okWide Try.prog W .any base t v := hval0
  have hW' := hW
  obtain ⟨p, q, hA0, hV, rfl, hfz, hnd⟩ := hW
  have hA : DataW.TrodAll enc Try.prog W 0 (fun _ => true) true Try.f8.params.toList args.toList ds p := hA0
  rw [Try.params8] at hA hval
  obtain ⟨v0, vs0, d0, ds0, p0, q0, hargs, rfl, rfl, h0, r0⟩ := trodAll_cons hA
  obtain ⟨v1, vs1, d1, ds1, p1, q1, rfl, rfl, rfl, h1, r1⟩ := trodAll_cons r0
  obtain ⟨v2, vs2, d2, ds2, p2, q2, rfl, rfl, rfl, h2, r2⟩ := trodAll_cons r1
  obtain ⟨rfl, rfl, rfl⟩ := trodAll_nil r2
  obtain rfl : args = #[v0, v1, v2] := by cases args; simp_all
  obtain ⟨rfl, rfl⟩ := trodVars_none hV
  obtain ⟨a0, len0, cap0, rfl⟩ := okWide_slice Try.underlying33 (hval 0 33 v0 rfl rfl)
  obtain ⟨a1, len1, cap1, rfl⟩ := okWide_slice Try.underlying33 (hval 1 33 v1 rfl rfl)
  have k0 := h0
  have k1 := h1
  have lt0 : ∀ x ∈ p0, x.block < W.heap.size := by obtain ⟨m, hm⟩ := k0; exact DataW.trod_lt m _ _ _ hm
  have lt1 : ∀ x ∈ p1, x.block < W.heap.size := by obtain ⟨m, hm⟩ := k1; exact DataW.trod_lt m _ _ _ hm
  obtain ⟨A0, L0, C0, w0⟩ : ∃ A L C, ArgIs W a0 len0 cap0 A L C := by
    obtain ⟨fuel, hf⟩ := h0
    exact arg_opened (by simpa [Value.cells] using hf)
  obtain ⟨A1, L1, C1, w1⟩ : ∃ A L C, ArgIs W a1 len1 cap1 A L C := by
    obtain ⟨fuel, hf⟩ := h1
    exact arg_opened (by simpa [Value.cells] using hf)
  obtain ⟨mx, rfl, rfl, rfl, w2⟩ := open_int Try.underlying3 (hval 2 3 v2 rfl rfl) h2
  clear hA0 hval0
  refine (law_walk a0 a1 len0 cap0 len1 cap1 mx A0 A1 L0 C0 L1 C1 W w0 w1).mono fun e W' ⟨he, bel⟩ => ?_
  subst he
  exact ⟨_, rfl, _, _, _, [], _, [], hW', trodAll_mk1 (shut_bool Try.underlying4 _), (trodAll_cons_mk (Below.trod laidOut (by kernel_rfl) (of_decide_eq_true (by kernel_rfl)) k0 bel lt0) (trodAll_cons_mk (Below.trod laidOut (by kernel_rfl) (of_decide_eq_true (by kernel_rfl)) k1 bel lt1) (trodAll_cons_mk (shut_int Try.underlying3 w2) trodAll_mk0))), rfl, bel.frame _, fun h => by cases h⟩

theorem over : Rows.fnAppendWithinSaturatesRow.holds Try.pinned (OpenSpec.ofChange Rows.fnAppendWithinSaturatesSpec) :=
  OpenClaim.holds_of_wide 8 Try.f8 rfl rfl rfl rfl rfl rfl rfl ⟨rfl, rfl, rfl, rfl, rfl⟩ rfl rfl rfl rfl rfl (by kernel_rfl) Try.func8 (by kernel_rfl)
    (of_decide_eq_true (by kernel_rfl)) (by unfold Func.isWrapper; first | (rw [if_pos (by decide +kernel)]; kernel_rfl) | (rw [if_neg (by decide +kernel)]; exact ⟨rfl, rfl⟩))
    (fun os started H enc _ => lifted os started H enc)

end Go.Proofs.Qxb6002676a.sat
namespace Go.Proofs.Qxb6002676a
/-- THE STATEMENT -/
theorem fnAppendWithinSaturates_proved : Rows.FnAppendWithinSaturatesSaid := sat.over
end Go.Proofs.Qxb6002676a
