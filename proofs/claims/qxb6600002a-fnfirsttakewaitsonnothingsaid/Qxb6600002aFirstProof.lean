/-
  The statement on FnFirstTakeWaitsOnNothing.
-/
import Derived.Test.Qxb6600002aOpen
namespace Go.Proofs.Qxb6600002a.First
open Go.ChangeShapes Go.WideShapes Go.ChangeAt Go.RowKit
set_option linter.unusedVariables false

set_option maxRecDepth 100000 in
theorem lifted (os : Os) (started : os.Started) (H : Type) (enc : TypeId × Value → H) :
    ReturnsInHanded {} Try.checked os 3 .any (Rows.fnFirstTakeWaitsOnNothingSpec.pre6 enc Try.prog Try.f3 Rows.fnFirstTakeWaitsOnNothingRow.domain false) (Rows.fnFirstTakeWaitsOnNothingSpec.post enc Try.prog Try.f3 false true false false) := by
  refine returnsInHanded_of_change (C := Try.checked) own started (by kernel_rfl) Try.func3
    (ChangeSpec.witness6 (enc := enc) (C := Try.checked) false ⟨#[], #[.slice none 0 0, .slice none 0 0], []⟩ 8 (by kernel_rfl) (by kernel_rfl) (by kernel_rfl) (by kernel_rfl)) ?_
  intro W base args ds gs before hval0 hW hcnd _
  have hval : ∀ (j : Nat) t v, Try.f3.params[j]? = some t → args[j]? = some v → Value.okWide Try.prog W .any base t v := hval0
  have hW' := hW
  obtain ⟨p, q, hA0, hV, rfl, hfz, hnd⟩ := hW
  have hA : DataW.TrodAll enc Try.prog W 0 (fun _ => true) true Try.f3.params.toList args.toList ds p := hA0
  rw [Try.params3] at hA hval
  obtain ⟨v0, vs0, d0, ds0, p0, q0, hargs, rfl, rfl, h0, r0⟩ := trodAll_cons hA
  obtain ⟨v1, vs1, d1, ds1, p1, q1, rfl, rfl, rfl, h1, r1⟩ := trodAll_cons r0
  obtain ⟨rfl, rfl, rfl⟩ := trodAll_nil r1
  obtain rfl : args = #[v0, v1] := by cases args; simp_all
  obtain ⟨rfl, rfl⟩ := trodVars_none hV
  obtain ⟨a0, len0, cap0, rfl⟩ := okWide_slice Try.underlying22 (hval 0 22 v0 rfl rfl)
  have k0 := h0
  have lt0 : ∀ x ∈ p0, x.block < W.heap.size := by obtain ⟨m, hm⟩ := k0; exact DataW.trod_lt m _ _ _ hm
  obtain ⟨z0, e0, w0, n0⟩ : ∃ vs : List ByteArray, len0 = vs.length ∧ Row encS W a0 vs ∧ (a0 = none → vs = []) := by
    obtain ⟨fuel, hf⟩ := h0
    exact open_strs Try.underlying22 Try.underlying9 (by kernel_rfl) hf
  obtain ⟨a1, len1, cap1, rfl⟩ := okWide_slice Try.underlying23 (hval 1 23 v1 rfl rfl)
  have k1 := h1
  have lt1 : ∀ x ∈ p1, x.block < W.heap.size := by obtain ⟨m, hm⟩ := k1; exact DataW.trod_lt m _ _ _ hm
  obtain ⟨z1, e1, w1, n1, b1⟩ : ∃ vs : List Nat, len1 = vs.length ∧ Row encU W a1 vs ∧ (a1 = none → vs = []) ∧ ∀ v ∈ vs, v < 2 ^ IntKind.u64.bits := by
    obtain ⟨fuel, hf⟩ := h1
    exact open_nats rfl Try.underlying23 Try.underlying29 (by kernel_rfl) hf
  subst e0 e1
  clear hA0 hval0
  refine (first_walk a0 cap0 z0 a1 cap1 z1 W w0 n0 w1 n1 b1).mono fun e W' ⟨he, kp⟩ => ?_
  subst he
  have bel := kp.below
  exact ⟨_, rfl, _, _, _, [], _, [], hW', trodAll_mk1 (shut_bool Try.underlying4 _), (trodAll_cons_mk (Below.trod laidOut (by kernel_rfl) (of_decide_eq_true (by kernel_rfl)) k0 bel lt0) (trodAll_cons_mk (Below.trod laidOut (by kernel_rfl) (of_decide_eq_true (by kernel_rfl)) k1 bel lt1) trodAll_mk0)), rfl, bel.frame _, fun h => by cases h⟩

theorem over : Rows.fnFirstTakeWaitsOnNothingRow.holds Try.pinned (OpenSpec.ofChange Rows.fnFirstTakeWaitsOnNothingSpec) :=
  OpenClaim.holds_of_wide 3 Try.f3 rfl rfl rfl rfl rfl rfl rfl ⟨rfl, rfl, rfl, rfl, rfl⟩ rfl rfl rfl rfl rfl (by kernel_rfl) Try.func3 (by kernel_rfl)
    (of_decide_eq_true (by kernel_rfl)) (by unfold Func.isWrapper; first | (rw [if_pos (by decide +kernel)]; kernel_rfl) | (rw [if_neg (by decide +kernel)]; exact ⟨rfl, rfl⟩))
    (fun os started H enc _ => lifted os started H enc)
end Go.Proofs.Qxb6600002a.First
namespace Go.Proofs.Qxb6600002a
/-- THE STATEMENT. -/
theorem fnFirstTakeWaitsOnNothing_proved : Rows.FnFirstTakeWaitsOnNothingSaid := First.over
end Go.Proofs.Qxb6600002a
