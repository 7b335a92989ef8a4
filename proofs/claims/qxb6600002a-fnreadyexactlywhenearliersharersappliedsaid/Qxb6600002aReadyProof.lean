/-
  The statement on FnReadyExactlyWhenEarlierSharersApplied.
-/
import Derived.Test.Qxb6600002aOpen
import Derived.Test.Qxb6600002aReady
namespace Go.Proofs.Qxb6600002a.Ready
open Go.ChangeShapes Go.WideShapes Go.ChangeAt Go.RowKit
set_option linter.unusedVariables false

/-- An array of eight unsigned integers, by value. -/
theorem open_arr8 {H : Type} {enc : TypeId × Value → H} {P : Program} {w : World} {base b0 : Nat} {r : Reach} {k : IntKind} {t e : TypeId} {v : Value} {d : DataW H} {p : List MemPlace} (hs : k.signed = false) (ht : P.underlying t = some (.array 8 e)) (he : P.underlying e = some (.int k)) (hce : P.cellsOf e = 1) (hct : P.cellsOf t = 8)
    (hv : Value.okWide P w r b0 t v) (h : DataW.Trod enc P w base (fun _ => true) true t v d p) : ∃ F : Nat → Nat, v = .agg (arr 8 fun i => .int k (F i : Nat)) ∧ ∀ i, i < 8 → F i < 2 ^ k.bits := by
  simp only [Value.okWide, ht] at hv
  obtain ⟨cs, rfl, hsz, _⟩ := hv
  rw [hct] at hsz
  obtain ⟨fuel, hf⟩ := h
  obtain ⟨xs, m, _, _, _, hxl, hall⟩ := DataW.trod_array ht hf
  have key : ∀ i, i < 8 → ∃ n : Nat, cs[i]? = some (.int k (n : Nat)) ∧ n < 2 ^ k.bits := by
    intro i hi
    have h1 := hall i hi
    rw [hce, Nat.mul_one] at h1
    have h2 : xs[i]? = some xs[i] := List.getElem?_eq_getElem (by omega)
    rw [h2] at h1
    obtain ⟨z, hz, _, hwf⟩ := DataW.trod_int he h1
    obtain ⟨n, rfl, hn⟩ := wf_nat hs hwf
    refine ⟨n, ?_, hn⟩
    have h3 : cs.toList[i]? = some (.int k (n : Int)) := by
      have h4 := congrArg (fun l : List Value => l[0]?) hz
      simpa [Value.cells] using h4
    simpa using h3
  refine ⟨fun i => match cs[i]? with | some (.int _ n) => n.toNat | _ => 0, ?_, fun i hi => ?_⟩
  · congr 1
    apply Array.ext'
    simp only [arr]
    apply List.ext_getElem?
    intro i
    by_cases hi : i < 8
    · obtain ⟨n, hn, _⟩ := key i hi
      simp [hi, hn]
    · have : cs.size ≤ i := by omega
      simp [hi, this]
  · obtain ⟨n, hn, hb⟩ := key i hi
    simp [hn, hb]

set_option maxRecDepth 100000 in
theorem lifted (os : Os) (started : os.Started) (H : Type) (enc : TypeId × Value → H) :
    ReturnsInHanded {} Try.checked os 4 .any (Rows.fnReadyExactlyWhenEarlierSharersAppliedSpec.pre6 enc Try.prog Try.f4 Rows.fnReadyExactlyWhenEarlierSharersAppliedRow.domain false) (Rows.fnReadyExactlyWhenEarlierSharersAppliedSpec.post enc Try.prog Try.f4 false true false false) := by
  refine returnsInHanded_of_change (C := Try.checked) own started (by kernel_rfl) Try.func4
    (ChangeSpec.witness6 (enc := enc) (C := Try.checked) false ⟨#[], #[.slice none 0 0, .slice none 0 0, .agg #[.int .u8 0, .int .u8 0, .int .u8 0, .int .u8 0, .int .u8 0, .int .u8 0, .int .u8 0, .int .u8 0], .agg #[.int .u32 0, .int .u32 0, .int .u32 0, .int .u32 0, .int .u32 0, .int .u32 0, .int .u32 0, .int .u32 0]], []⟩ 8 (by kernel_rfl) (by kernel_rfl) (by kernel_rfl) (by kernel_rfl)) ?_
  intro W base args ds gs before hval0 hW hcnd _
  have hval : ∀ (j : Nat) t v, Try.f4.params[j]? = some t → args[j]? = some v → Value.okWide Try.prog W .any base t v := hval0
  have hW' := hW
  obtain ⟨p, q, hA0, hV, rfl, hfz, hnd⟩ := hW
  have hA : DataW.TrodAll enc Try.prog W 0 (fun _ => true) true Try.f4.params.toList args.toList ds p := hA0
  rw [Try.params4] at hA hval
  obtain ⟨v0, vs0, d0, ds0, p0, q0, hargs, rfl, rfl, h0, r0⟩ := trodAll_cons hA
  obtain ⟨v1, vs1, d1, ds1, p1, q1, rfl, rfl, rfl, h1, r1⟩ := trodAll_cons r0
  obtain ⟨v2, vs2, d2, ds2, p2, q2, rfl, rfl, rfl, h2, r2⟩ := trodAll_cons r1
  obtain ⟨v3, vs3, d3, ds3, p3, q3, rfl, rfl, rfl, h3, r3⟩ := trodAll_cons r2
  obtain ⟨rfl, rfl, rfl⟩ := trodAll_nil r3
  obtain rfl : args = #[v0, v1, v2, v3] := by cases args; simp_all
  obtain ⟨rfl, rfl⟩ := trodVars_none hV
  obtain ⟨a0, len0, cap0, rfl⟩ := okWide_slice Try.underlying39 (hval 0 39 v0 rfl rfl)
  have k0 := h0
  have lt0 : ∀ x ∈ p0, x.block < W.heap.size := by obtain ⟨m, hm⟩ := k0; exact DataW.trod_lt m _ _ _ hm
  obtain ⟨z0, e0, w0, n0, b0⟩ : ∃ vs : List Nat, len0 = vs.length ∧ Row encB W a0 vs ∧ (a0 = none → vs = []) ∧ ∀ v ∈ vs, v < 2 ^ IntKind.u8.bits := by
    obtain ⟨fuel, hf⟩ := h0
    exact open_nats rfl Try.underlying39 Try.underlying5 (by kernel_rfl) hf
  obtain ⟨a1, len1, cap1, rfl⟩ := okWide_slice Try.underlying40 (hval 1 40 v1 rfl rfl)
  have k1 := h1
  have lt1 : ∀ x ∈ p1, x.block < W.heap.size := by obtain ⟨m, hm⟩ := k1; exact DataW.trod_lt m _ _ _ hm
  obtain ⟨z1, e1, w1, n1, b1⟩ : ∃ vs : List Nat, len1 = vs.length ∧ Row encW W a1 vs ∧ (a1 = none → vs = []) ∧ ∀ v ∈ vs, v < 2 ^ IntKind.u16.bits := by
    obtain ⟨fuel, hf⟩ := h1
    exact open_nats rfl Try.underlying40 Try.underlying52 (by kernel_rfl) hf
  have k2 := h2
  have lt2 : ∀ x ∈ p2, x.block < W.heap.size := by obtain ⟨m, hm⟩ := k2; exact DataW.trod_lt m _ _ _ hm
  obtain ⟨slo, e2, b2⟩ := open_arr8 (k := .u8) rfl Try.underlying41 Try.underlying5 (by kernel_rfl) (by kernel_rfl) (hval 2 41 v2 rfl rfl) h2
  have k3 := h3
  have lt3 : ∀ x ∈ p3, x.block < W.heap.size := by obtain ⟨m, hm⟩ := k3; exact DataW.trod_lt m _ _ _ hm
  obtain ⟨bs, e3, b3⟩ := open_arr8 (k := .u32) rfl Try.underlying43 Try.underlying42 (by kernel_rfl) (by kernel_rfl) (hval 3 43 v3 rfl rfl) h3
  subst e0 e1 e2 e3
  clear hA0 hval0
  refine (ready_walk a0 cap0 z0 a1 cap1 z1 slo bs W w0 n0 b0 w1 n1 b1 b2 b3).mono fun e W' ⟨he, kp⟩ => ?_
  subst he
  have bel := kp.below
  exact ⟨_, rfl, _, _, _, [], _, [], hW', trodAll_mk1 (shut_bool Try.underlying4 _), (trodAll_cons_mk (Below.trod laidOut (by kernel_rfl) (of_decide_eq_true (by kernel_rfl)) k0 bel lt0) (trodAll_cons_mk (Below.trod laidOut (by kernel_rfl) (of_decide_eq_true (by kernel_rfl)) k1 bel lt1) (trodAll_cons_mk (Below.trod laidOut (by kernel_rfl) (of_decide_eq_true (by kernel_rfl)) k2 bel lt2) (trodAll_cons_mk (Below.trod laidOut (by kernel_rfl) (of_decide_eq_true (by kernel_rfl)) k3 bel lt3) trodAll_mk0)))), rfl, bel.frame _, fun h => by cases h⟩

theorem over : Rows.fnReadyExactlyWhenEarlierSharersAppliedRow.holds Try.pinned (OpenSpec.ofChange Rows.fnReadyExactlyWhenEarlierSharersAppliedSpec) :=
  OpenClaim.holds_of_wide 4 Try.f4 rfl rfl rfl rfl rfl rfl rfl ⟨rfl, rfl, rfl, rfl, rfl⟩ rfl rfl rfl rfl rfl (by kernel_rfl) Try.func4 (by kernel_rfl)
    (of_decide_eq_true (by kernel_rfl)) (by unfold Func.isWrapper; first | (rw [if_pos (by decide +kernel)]; kernel_rfl) | (rw [if_neg (by decide +kernel)]; exact ⟨rfl, rfl⟩))
    (fun os started H enc _ => lifted os started H enc)
end Go.Proofs.Qxb6600002a.Ready
namespace Go.Proofs.Qxb6600002a
/-- THE STATEMENT. -/
theorem fnReadyExactlyWhenEarlierSharersApplied_proved : Rows.FnReadyExactlyWhenEarlierSharersAppliedSaid := Ready.over
end Go.Proofs.Qxb6600002a
