/-
  The statement on FnHeldKeysAreThoseUnderWay.
-/
import Derived.Test.Qxb6600002aOpen
import Derived.Test.Qxb6600002aFreeFns
namespace Go.Proofs.Qxb6600002a.Held
open Go.ChangeShapes Go.WideShapes Go.ChangeAt Go.RowKit
set_option linter.unusedVariables false

set_option maxRecDepth 100000 in
theorem lifted (os : Os) (started : os.Started) (H : Type) (enc : TypeId × Value → H) :
    ReturnsInHanded {} Try.checked os 7 .any (Rows.fnHeldKeysAreThoseUnderWaySpec.pre6 enc Try.prog Try.f7 Rows.fnHeldKeysAreThoseUnderWayRow.domain false) (Rows.fnHeldKeysAreThoseUnderWaySpec.post enc Try.prog Try.f7 false true false false) := by
  refine returnsInHanded_of_change (C := Try.checked) own started (by kernel_rfl) Try.func7
    (ChangeSpec.witness6 (enc := enc) (C := Try.checked) false ⟨#[], #[.slice none 0 0, .slice none 0 0, .slice none 0 0], []⟩ 8 (by kernel_rfl) (by kernel_rfl) (by kernel_rfl) (by kernel_rfl)) ?_
  intro W base args ds gs before hval0 hW hcnd _
  have hval : ∀ (j : Nat) t v, Try.f7.params[j]? = some t → args[j]? = some v → Value.okWide Try.prog W .any base t v := hval0
  have hW' := hW
  obtain ⟨p, q, hA0, hV, rfl, hfz, hnd⟩ := hW
  have hA : DataW.TrodAll enc Try.prog W 0 (fun _ => true) true Try.f7.params.toList args.toList ds p := hA0
  rw [Try.params7] at hA hval
  obtain ⟨v0, vs0, d0, ds0, p0, q0, hargs, rfl, rfl, h0, r0⟩ := trodAll_cons hA
  obtain ⟨v1, vs1, d1, ds1, p1, q1, rfl, rfl, rfl, h1, r1⟩ := trodAll_cons r0
  obtain ⟨v2, vs2, d2, ds2, p2, q2, rfl, rfl, rfl, h2, r2⟩ := trodAll_cons r1
  obtain ⟨rfl, rfl, rfl⟩ := trodAll_nil r2
  obtain rfl : args = #[v0, v1, v2] := by cases args; simp_all
  obtain ⟨rfl, rfl⟩ := trodVars_none hV
  obtain ⟨a0, len0, cap0, rfl⟩ := okWide_slice Try.underlying39 (hval 0 39 v0 rfl rfl)
  have k0 := h0
  have lt0 : ∀ x ∈ p0, x.block < W.heap.size := by obtain ⟨m, hm⟩ := k0; exact DataW.trod_lt m _ _ _ hm
  obtain ⟨z0, e0, w0, n0, b0⟩ : ∃ vs : List Nat, len0 = vs.length ∧ Row encB W a0 vs ∧ (a0 = none → vs = []) ∧ ∀ v ∈ vs, v < 2 ^ IntKind.u8.bits := by
    obtain ⟨fuel, hf⟩ := h0
    exact open_nats rfl Try.underlying39 Try.underlying5 (by kernel_rfl) hf
  obtain ⟨a1, len1, cap1, rfl⟩ := okWide_slice Try.underlying23 (hval 1 23 v1 rfl rfl)
  have k1 := h1
  have lt1 : ∀ x ∈ p1, x.block < W.heap.size := by obtain ⟨m, hm⟩ := k1; exact DataW.trod_lt m _ _ _ hm
  obtain ⟨z1, e1, w1, n1, b1⟩ : ∃ vs : List Nat, len1 = vs.length ∧ Row encU W a1 vs ∧ (a1 = none → vs = []) ∧ ∀ v ∈ vs, v < 2 ^ IntKind.u64.bits := by
    obtain ⟨fuel, hf⟩ := h1
    exact open_nats rfl Try.underlying23 Try.underlying29 (by kernel_rfl) hf
  obtain ⟨a2, len2, cap2, rfl⟩ := okWide_slice Try.underlying40 (hval 2 40 v2 rfl rfl)
  have k2 := h2
  have lt2 : ∀ x ∈ p2, x.block < W.heap.size := by obtain ⟨m, hm⟩ := k2; exact DataW.trod_lt m _ _ _ hm
  obtain ⟨z2, e2, w2, n2, b2⟩ : ∃ vs : List Nat, len2 = vs.length ∧ Row encW W a2 vs ∧ (a2 = none → vs = []) ∧ ∀ v ∈ vs, v < 2 ^ IntKind.u16.bits := by
    obtain ⟨fuel, hf⟩ := h2
    exact open_nats rfl Try.underlying40 Try.underlying52 (by kernel_rfl) hf
  subst e0 e1 e2
  clear hA0 hval0
  refine (free7_walk a0 cap0 z0 a1 cap1 z1 a2 cap2 z2 W w0 n0 b0 w1 n1 b1 w2 n2 b2).mono fun e W' ⟨he, kp⟩ => ?_
  subst he
  have bel := kp.below
  exact ⟨_, rfl, _, _, _, [], _, [], hW', trodAll_mk1 (shut_bool Try.underlying4 _), (trodAll_cons_mk (Below.trod laidOut (by kernel_rfl) (of_decide_eq_true (by kernel_rfl)) k0 bel lt0) (trodAll_cons_mk (Below.trod laidOut (by kernel_rfl) (of_decide_eq_true (by kernel_rfl)) k1 bel lt1) (trodAll_cons_mk (Below.trod laidOut (by kernel_rfl) (of_decide_eq_true (by kernel_rfl)) k2 bel lt2) trodAll_mk0))), rfl, bel.frame _, fun h => by cases h⟩

theorem over : Rows.fnHeldKeysAreThoseUnderWayRow.holds Try.pinned (OpenSpec.ofChange Rows.fnHeldKeysAreThoseUnderWaySpec) :=
  OpenClaim.holds_of_wide 7 Try.f7 rfl rfl rfl rfl rfl rfl rfl ⟨rfl, rfl, rfl, rfl, rfl⟩ rfl rfl rfl rfl rfl (by kernel_rfl) Try.func7 (by kernel_rfl)
    (of_decide_eq_true (by kernel_rfl)) (by unfold Func.isWrapper; first | (rw [if_pos (by decide +kernel)]; kernel_rfl) | (rw [if_neg (by decide +kernel)]; exact ⟨rfl, rfl⟩))
    (fun os started H enc _ => lifted os started H enc)
end Go.Proofs.Qxb6600002a.Held
namespace Go.Proofs.Qxb6600002a
/-- THE STATEMENT. -/
theorem fnHeldKeysAreThoseUnderWay_proved : Rows.FnHeldKeysAreThoseUnderWaySaid := Held.over
end Go.Proofs.Qxb6600002a
