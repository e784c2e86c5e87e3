/-
  'Rows.FnNewMatcherNumbersByFirstSightSaid', proved.
-/
import Derived.Test.Qxb6601719aLaw
import Derived.Test.Qxb6601719aOpen
import Derived.ShutString
import Derived.ChangeOld
import Derived.Below
namespace Go.Proofs.Qxb6601719a.fnNewMatcherNumbersByFirstSight
open Go.ChangeShapes Go.WideShapes Go.ChangeAt Go.RowKit
set_option linter.unusedVariables false

theorem own : ownKnob Try.prog.godebug = none := by kernel_rfl
theorem laidOut : laidOutB Try.prog = true := by kernel_rfl

set_option maxRecDepth 100000 in
theorem lifted (os : Os) (started : os.Started) (H : Type) (enc : TypeId × Value → H) :
    ReturnsInHanded {} Try.checked os 5 .any (Rows.fnNewMatcherNumbersByFirstSightSpec.pre6 enc Try.prog Try.f5 Rows.fnNewMatcherNumbersByFirstSightRow.domain false) (Rows.fnNewMatcherNumbersByFirstSightSpec.post enc Try.prog Try.f5 false true false false) := by
  refine returnsInHanded_of_change (C := Try.checked) own started (by kernel_rfl) Try.func5
    (ChangeSpec.witness6 (enc := enc) (C := Try.checked) false ⟨#[], #[.slice none 0 0, .slice none 0 0], []⟩ 8 (by kernel_rfl) (by kernel_rfl) (by kernel_rfl) (by kernel_rfl)) ?_
  intro W base args ds gs before hval0 hW hcnd _
  have hval : ∀ (j : Nat) t v, Try.f5.params[j]? = some t → args[j]? = some v → Value.okWide Try.prog W .any base t v := hval0
  have hW' := hW
  obtain ⟨p, q, hA0, hV, rfl, hfz, hnd⟩ := hW
  have hA : DataW.TrodAll enc Try.prog W 0 (fun _ => true) true Try.f5.params.toList args.toList ds p := hA0
  rw [Try.params5] at hA hval
  obtain ⟨v0, vs0, d0, ds0, p0, q0, hargs, rfl, rfl, h0, r0⟩ := trodAll_cons hA
  obtain ⟨v1, vs1, d1, ds1, p1, q1, rfl, rfl, rfl, h1, r1⟩ := trodAll_cons r0
  obtain ⟨rfl, rfl, rfl⟩ := trodAll_nil r1
  obtain rfl : args = #[v0, v1] := by cases args; simp_all
  obtain ⟨rfl, rfl⟩ := trodVars_none hV
  have k0 := h0
  have lt0 : ∀ x ∈ p0, x.block < W.heap.size := by obtain ⟨m, hm⟩ := k0; exact DataW.trod_lt m _ _ _ hm
  have k1 := h1
  have lt1 : ∀ x ∈ p1, x.block < W.heap.size := by obtain ⟨m, hm⟩ := k1; exact DataW.trod_lt m _ _ _ hm
  obtain ⟨x0, len0, cap0, hv0⟩ := okWide_slice Try.underlying25 (hval 0 25 v0 rfl rfl)
  obtain ⟨x1, len1, cap1, hv1⟩ := okWide_slice Try.underlying25 (hval 1 25 v1 rfl rfl)
  obtain ⟨ga, G, Gc, A, L, C, RB, RO, X, gb, go, hv, g⟩ : ∃ (ga : Option Addr) (G Gc : Nat) (A : Nat → Option Addr) (L C RB RO : Nat → Nat) (X : Nat → Nat → UInt8) (gb go : Nat), v0 = .slice ga G Gc ∧ LinesAt W ga G A L C RB RO X gb go := by
    obtain ⟨fuel, hf⟩ := h0
    exact open_lines (v := v0) (by rw [hv0] at hf ⊢; simpa [Value.cells] using hf)
  obtain ⟨ga', G', Gc', A', L', C', RB', RO', X', gb', go', hv', g'⟩ : ∃ (ga : Option Addr) (G Gc : Nat) (A : Nat → Option Addr) (L C RB RO : Nat → Nat) (X : Nat → Nat → UInt8) (gb go : Nat), v1 = .slice ga G Gc ∧ LinesAt W ga G A L C RB RO X gb go := by
    obtain ⟨fuel, hf⟩ := h1
    exact open_lines (v := v1) (by rw [hv1] at hf ⊢; simpa [Value.cells] using hf)
  clear hA0 hval0 hv0 hv1
  subst hv hv'
  refine (law5 g g').mono fun e W' ⟨he, sn⟩ => ?_
  have bel : Below W.heap.size W W' := ⟨sn.os, sn.tape, sn.output, sn.size, sn.block⟩
  subst he
  exact ⟨_, rfl, _, _, _, [], _, [], hW', trodAll_mk1 (shut_bool Try.underlying4 _), (trodAll_cons_mk (Below.trod laidOut (by kernel_rfl) (of_decide_eq_true (by kernel_rfl)) k0 bel lt0) (trodAll_cons_mk (Below.trod laidOut (by kernel_rfl) (of_decide_eq_true (by kernel_rfl)) k1 bel lt1) trodAll_mk0)), rfl, bel.frame _, fun h => by cases h⟩

theorem over : Rows.fnNewMatcherNumbersByFirstSightRow.holds Try.pinned (OpenSpec.ofChange Rows.fnNewMatcherNumbersByFirstSightSpec) :=
  OpenClaim.holds_of_wide 5 Try.f5 rfl rfl rfl rfl rfl rfl rfl ⟨rfl, rfl, rfl, rfl, rfl⟩ rfl rfl rfl rfl rfl (by kernel_rfl) Try.func5 (by kernel_rfl)
    (of_decide_eq_true (by kernel_rfl)) (by unfold Func.isWrapper; first | (rw [if_pos (by decide +kernel)]; kernel_rfl) | (rw [if_neg (by decide +kernel)]; exact ⟨rfl, rfl⟩))
    (fun os started H enc _ => lifted os started H enc)

/-- THE STATEMENT. -/
theorem proved : Rows.FnNewMatcherNumbersByFirstSightSaid := over
#print axioms proved
end Go.Proofs.Qxb6601719a.fnNewMatcherNumbersByFirstSight
