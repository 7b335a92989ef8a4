/-
  Rules for walking the program over a frame that is a function from slots to values ('Fr n f'), so that a frame of hundreds of slots is never written out.
-/
import Derived.Test.Qxb6600002aProg
import Derived.Test.Qxb6600002aMap
import Derived.StillTail
import Derived.KernelRfl
namespace Go.Proofs.Qxb6600002a
set_option linter.unusedSimpArgs false
set_option linter.unusedVariables false
open Go.MapKept Go.ChangeMaps Go.RowKit

/-! ### frames -/
def upd (f : Nat → Value) (d : Nat) (v : Value) : Nat → Value := fun t => cond (Nat.beq t d) v (f t)

def Fr (n : Nat) (f : Nat → Value) : Act := ⟨((List.range n).map f).toArray, []⟩

def ev (n : Nat) (f : Nat → Value) : Operand → Value
  | .tmp s => cond (Nat.blt s n) (f s) undef
  | .const v => v
  | .global g => .pointer (some ⟨g, 0, none⟩)
  | .func g => .func (.func g) #[] #[]

theorem upd_same (f : Nat → Value) (d : Nat) (v : Value) : upd f d v d = v := by simp [upd]
theorem upd_ne (f : Nat → Value) {d t : Nat} (v : Value) (h : t ≠ d) : upd f d v t = f t := by
  have : Nat.beq t d = false := by
    cases hb : Nat.beq t d with
    | false => rfl
    | true => exact absurd (Nat.eq_of_beq_eq_true hb) h
  simp [upd, this]
theorem upd_id {f : Nat → Value} {d : Nat} {v : Value} (h : f d = v) : f = upd f d v := by
  funext t
  by_cases e : t = d
  · subst e; rw [upd_same, h]
  · rw [upd_ne _ _ e]

theorem blt_iff {s n : Nat} : Nat.blt s n = true ↔ s < n := by
  unfold Nat.blt
  rw [Nat.ble_eq]
  exact Iff.rfl

theorem Fr_eval (n : Nat) (f : Nat → Value) : (Fr n f).eval = ev n f := by
  funext x
  cases x with
  | tmp s =>
    by_cases h : s < n
    · have : Nat.blt s n = true := blt_iff.2 h
      simp [Act.eval, Fr, ev, this, h]
    · have : Nat.blt s n = false := by
        cases hb : Nat.blt s n with
        | false => rfl
        | true => exact absurd (blt_iff.1 hb) h
      simp [Act.eval, Fr, ev, this, h]
  | const v => rfl
  | global g => rfl
  | func g => rfl

theorem Fr_put (n : Nat) (f : Nat → Value) (d : Nat) (v : Value) : (Fr n f).put (some d) v = Fr n (upd f d v) := by
  simp only [Act.put, Fr, Act.mk.injEq, and_true]
  apply Array.ext'
  simp only [Array.toList_setIfInBounds]
  apply List.ext_getElem?
  intro i
  simp only [List.getElem?_set, List.length_map, List.length_range, List.getElem?_map, List.getElem?_range]
  by_cases hd : d = i
  · subst hd
    by_cases hn : d < n
    · simp [hn, upd_same]
    · simp [hn]
  · simp only [if_neg hd]
    by_cases hn : i < n
    · simp [hn, upd_ne f v (Ne.symm hd)]
    · simp [hn]

theorem Fr_getD (n : Nat) (f : Nat → Value) (t : Nat) : (Fr n f).tmps.getD t undef = ev n f (.tmp t) := by
  rw [← Fr_eval]; rfl

theorem Fr_get? (n : Nat) (f : Nat → Value) (t : Nat) (h : Nat.blt t n = true) : (Fr n f).tmps[t]? = some (f t) := by
  have : t < n := blt_iff.1 h
  simp [Fr, this]

/-- Two frames that agree outside a list of slots. -/
def Agr (W : List Nat) (f g : Nat → Value) : Prop := ∀ t, W.contains t = false → g t = f t
theorem Agr.refl (W : List Nat) (f : Nat → Value) : Agr W f f := fun _ _ => rfl
theorem Agr.trans {W : List Nat} {f g h : Nat → Value} (a : Agr W f g) (b : Agr W g h) : Agr W f h := fun t ht => (b t ht).trans (a t ht)
theorem Agr.upd {W : List Nat} {f g : Nat → Value} (d : Nat) (v : Value) (hd : W.contains d = true) (a : Agr W f g) : Agr W f (upd g d v) := fun t ht => by
  rw [upd_ne]
  · exact a t ht
  · intro e
    subst e
    rw [hd] at ht
    cases ht
theorem Agr.mono {W W' : List Nat} {f g : Nat → Value} (a : Agr W f g) (h : W.all (fun t => W'.contains t) = true) : Agr W' f g := fun t ht => a t (by
  cases hc : W.contains t with
  | false => rfl
  | true =>
    have := List.all_eq_true.1 h t (by simpa using hc)
    rw [this] at ht
    cases ht)

/-! ### entering and leaving -/
theorem enter_frame (args : List Value) (n : Nat) (h : args.length ≤ n) : (⟨args.toArray ++ Array.replicate (n - args.toArray.size) undef, []⟩ : Act) = Fr n (fun t => args.getD t undef) := by
  simp only [Fr, Act.mk.injEq, and_true]
  apply Array.ext'
  simp only [Array.toList_append, Array.toList_replicate, List.size_toArray]
  apply List.ext_getElem?
  intro i
  simp only [List.getElem?_append, List.getElem?_map, List.getElem?_range, List.getElem?_replicate]
  by_cases h1 : i < args.length
  · have h2 : i < n := by omega
    simp [h1, h2]
  · by_cases h2 : i < n
    · have h3 : i - args.length < n - args.length := by omega
      simp [h1, h2, h3]
    · have h3 : ¬ (i - args.length < n - args.length) := by omega
      simp [h1, h2, h3]

section
variable {P : Program} {fid : FuncId} {fn : Func} {c : Code} {w : World} {R : Ending → World → Prop}

theorem enter0 (hf : P.funcs[fid]? = some fn) (hb : fn.body = some c) {n : Nat} (hn : fn.ntmps = n) (h : ∀ g, c.wp P (bodyPost P fn R) (Fr n g) w) : Calls P fid #[] w R := by
  refine calls_of_wp hf hb ?_
  rw [hn]
  rw [enter_frame [] n (Nat.zero_le _)]
  exact h _

theorem enter1 (hf : P.funcs[fid]? = some fn) (hb : fn.body = some c) {n : Nat} (hn : fn.ntmps = n) {a0 : Value} (hl : 1 ≤ n) (h : ∀ g, c.wp P (bodyPost P fn R) (Fr n (upd g 0 a0)) w) : Calls P fid #[a0] w R := by
  refine calls_of_wp hf hb ?_
  rw [hn]
  rw [enter_frame [a0] n hl]
  generalize hg : (fun t => [a0].getD t undef) = g
  have e0 : g = upd g 0 a0 := by
    exact upd_id (by rw [← hg]; rfl)
  rw [e0]
  exact h g

theorem enter2 (hf : P.funcs[fid]? = some fn) (hb : fn.body = some c) {n : Nat} (hn : fn.ntmps = n) {a0 a1 : Value} (hl : 2 ≤ n) (h : ∀ g, c.wp P (bodyPost P fn R) (Fr n (upd (upd g 0 a0) 1 a1)) w) : Calls P fid #[a0, a1] w R := by
  refine calls_of_wp hf hb ?_
  rw [hn]
  rw [enter_frame [a0, a1] n hl]
  generalize hg : (fun t => [a0, a1].getD t undef) = g
  have e0 : g = upd g 0 a0 := by
    exact upd_id (by rw [← hg]; rfl)
  have e1 : g = upd (upd g 0 a0) 1 a1 := by
    rw [← e0]
    exact upd_id (by rw [← hg]; rfl)
  rw [e1]
  exact h g

theorem enter3 (hf : P.funcs[fid]? = some fn) (hb : fn.body = some c) {n : Nat} (hn : fn.ntmps = n) {a0 a1 a2 : Value} (hl : 3 ≤ n) (h : ∀ g, c.wp P (bodyPost P fn R) (Fr n (upd (upd (upd g 0 a0) 1 a1) 2 a2)) w) : Calls P fid #[a0, a1, a2] w R := by
  refine calls_of_wp hf hb ?_
  rw [hn]
  rw [enter_frame [a0, a1, a2] n hl]
  generalize hg : (fun t => [a0, a1, a2].getD t undef) = g
  have e0 : g = upd g 0 a0 := by
    exact upd_id (by rw [← hg]; rfl)
  have e1 : g = upd (upd g 0 a0) 1 a1 := by
    rw [← e0]
    exact upd_id (by rw [← hg]; rfl)
  have e2 : g = upd (upd (upd g 0 a0) 1 a1) 2 a2 := by
    rw [← e1]
    exact upd_id (by rw [← hg]; rfl)
  rw [e2]
  exact h g

theorem enter4 (hf : P.funcs[fid]? = some fn) (hb : fn.body = some c) {n : Nat} (hn : fn.ntmps = n) {a0 a1 a2 a3 : Value} (hl : 4 ≤ n) (h : ∀ g, c.wp P (bodyPost P fn R) (Fr n (upd (upd (upd (upd g 0 a0) 1 a1) 2 a2) 3 a3)) w) : Calls P fid #[a0, a1, a2, a3] w R := by
  refine calls_of_wp hf hb ?_
  rw [hn]
  rw [enter_frame [a0, a1, a2, a3] n hl]
  generalize hg : (fun t => [a0, a1, a2, a3].getD t undef) = g
  have e0 : g = upd g 0 a0 := by
    exact upd_id (by rw [← hg]; rfl)
  have e1 : g = upd (upd g 0 a0) 1 a1 := by
    rw [← e0]
    exact upd_id (by rw [← hg]; rfl)
  have e2 : g = upd (upd (upd g 0 a0) 1 a1) 2 a2 := by
    rw [← e1]
    exact upd_id (by rw [← hg]; rfl)
  have e3 : g = upd (upd (upd (upd g 0 a0) 1 a1) 2 a2) 3 a3 := by
    rw [← e2]
    exact upd_id (by rw [← hg]; rfl)
  rw [e3]
  exact h g

theorem leave1 {n t : Nat} {f : Nat → Value} {v : Value} (hr : fn.results = #[.tmp t]) (hv : ev n f (.tmp t) = v) (h : R (.returned v) w) : bodyPost P fn R .ret (Fr n f) w := by
  refine bodyPost_ret (results_tmp hr _ _ _) rfl ?_
  rw [Fr_getD, hv]
  exact h

theorem leave2 {n t u : Nat} {f : Nat → Value} {v x : Value} (hr : fn.results = #[.tmp t, .tmp u]) (hv : ev n f (.tmp t) = v) (hx : ev n f (.tmp u) = x) (h : R (.returned (.tuple #[v, x])) w) : bodyPost P fn R .ret (Fr n f) w := by
  refine bodyPost_ret (results_tmp2 hr _ _ _) rfl ?_
  rw [Fr_getD, Fr_getD, hv, hx]
  exact h

theorem leave0 {n : Nat} {f : Nat → Value} (hr : fn.results = #[]) (h : R (.returned (.tuple #[])) w) : bodyPost P fn R .normal (Fr n f) w :=
  bodyPost_end (results_none hr _ _ _) rfl h
end

/-! ### one operation -/
section
variable {P : Program} {n : Nat} {f : Nat → Value} {w w' : World} {ops : Array Oper} {Q : Exit → Act → World → Prop} {rest : List Oper} {op : Op} {ty : TypeId} {pos : String} {aft : Array Edge} {d : Nat} {v : Value}

theorem wl_val (hrun : (execOp (ev n f) ⟨some d, op, ty, pos, aft, none⟩).run P w = .ok (.value v) w') (h : wpList P ops Q rest (Fr n (upd f d v)) w') : wpList P ops Q (⟨some d, op, ty, pos, aft, none⟩ :: rest) (Fr n f) w := by
  refine wpList_plain rfl fun K hK => ?_
  unfold Oper.wp
  rw [Fr_eval, hrun]
  show K ((Fr n f).put (some d) v) w'
  rw [Fr_put]
  exact hK _ _ h

theorem wl_unit (hrun : (execOp (ev n f) ⟨none, op, ty, pos, aft, none⟩).run P w = .ok .skip w') (h : wpList P ops Q rest (Fr n f) w') : wpList P ops Q (⟨none, op, ty, pos, aft, none⟩ :: rest) (Fr n f) w := by
  refine wpList_plain rfl fun K hK => ?_
  unfold Oper.wp
  rw [Fr_eval, hrun]
  exact hK _ _ h

theorem wl_val0 (hrun : (execOp (ev n f) ⟨none, op, ty, pos, aft, none⟩).run P w = .ok (.value v) w') (h : wpList P ops Q rest (Fr n f) w') : wpList P ops Q (⟨none, op, ty, pos, aft, none⟩ :: rest) (Fr n f) w := by
  refine wpList_plain rfl fun K hK => ?_
  unfold Oper.wp
  rw [Fr_eval, hrun]
  exact hK _ _ h

/-- A call of a function of the program. -/
theorem wl_call {g : FuncId} {args : Array Value} (hrun : (execOp (ev n f) ⟨some d, op, ty, pos, aft, none⟩).run P w = .ok (.enter g args) w)
    (h : Calls P g args w fun e w1 => ∃ u, e = .returned u ∧ wpList P ops Q rest (Fr n (upd f d u)) w1) : wpList P ops Q (⟨some d, op, ty, pos, aft, none⟩ :: rest) (Fr n f) w := by
  refine wpList_plain rfl fun K hK => ?_
  unfold Oper.wp
  rw [Fr_eval, hrun]
  refine h.mono fun e w1 hx => ?_
  obtain ⟨u, rfl, hu⟩ := hx
  show K ((Fr n f).put (some d) u) w1
  rw [Fr_put]
  exact hK _ _ hu

theorem guard_on {j e : Nat} {b : Bool} {oj : Oper} (hj : ops[j]? = some oj) (hd : oj.dst = some e) (he : ev n f (.tmp e) = .bool b) (hn : Nat.blt e n = true) : yielded ops (Fr n f).tmps j = some b := by
  have h2 : f e = .bool b := by simpa [ev, hn] using he
  have h1 := Fr_get? n f e hn
  unfold yielded
  simp only [hj, hd, Option.bind_some, h1, h2]

/-- Guarded, and the guard says yes. -/
theorem wl_val_on {j e : Nat} {b : Bool} {oj : Oper} (hj : ops[j]? = some oj) (hd : oj.dst = some e) (hn : Nat.blt e n = true) (he : ev n f (.tmp e) = .bool b)
    (hrun : (execOp (ev n f) ⟨some d, op, ty, pos, aft, some (j, b)⟩).run P w = .ok (.value v) w') (h : wpList P ops Q rest (Fr n (upd f d v)) w') : wpList P ops Q (⟨some d, op, ty, pos, aft, some (j, b)⟩ :: rest) (Fr n f) w := by
  refine wpList_step fun K hK => ?_
  have hw : Region.wanted (⟨some d, op, ty, pos, aft, some (j, b)⟩ : Oper) (yielded ops (Fr n f).tmps) = true := by simp [Region.wanted, guard_on hj hd he hn]
  rw [if_pos hw]
  unfold Oper.wp
  rw [Fr_eval, hrun]
  show K ((Fr n f).put (some d) v) w'
  rw [Fr_put]
  exact hK _ _ h

theorem wl_call_on {j e : Nat} {b : Bool} {oj : Oper} {g : FuncId} {args : Array Value} (hj : ops[j]? = some oj) (hd : oj.dst = some e) (hn : Nat.blt e n = true) (he : ev n f (.tmp e) = .bool b)
    (hrun : (execOp (ev n f) ⟨some d, op, ty, pos, aft, some (j, b)⟩).run P w = .ok (.enter g args) w)
    (h : Calls P g args w fun e w1 => ∃ u, e = .returned u ∧ wpList P ops Q rest (Fr n (upd f d u)) w1) : wpList P ops Q (⟨some d, op, ty, pos, aft, some (j, b)⟩ :: rest) (Fr n f) w := by
  refine wpList_step fun K hK => ?_
  have hw : Region.wanted (⟨some d, op, ty, pos, aft, some (j, b)⟩ : Oper) (yielded ops (Fr n f).tmps) = true := by simp [Region.wanted, guard_on hj hd he hn]
  rw [if_pos hw]
  unfold Oper.wp
  rw [Fr_eval, hrun]
  refine h.mono fun e w1 hx => ?_
  obtain ⟨u, rfl, hu⟩ := hx
  show K ((Fr n f).put (some d) u) w1
  rw [Fr_put]
  exact hK _ _ hu

/-- Guarded, and the guard says no: passed over. -/
theorem wl_off {j e : Nat} {b : Bool} {oj : Oper} (hj : ops[j]? = some oj) (hd : oj.dst = some e) (hn : Nat.blt e n = true) (he : ev n f (.tmp e) = .bool (!b))
    (h : wpList P ops Q rest (Fr n (upd f d undef)) w) : wpList P ops Q (⟨some d, op, ty, pos, aft, some (j, b)⟩ :: rest) (Fr n f) w := by
  refine wpList_step fun K hK => ?_
  have hw : Region.wanted (⟨some d, op, ty, pos, aft, some (j, b)⟩ : Oper) (yielded ops (Fr n f).tmps) = false := by
    simp only [Region.wanted, guard_on hj hd he hn]
    cases b <;> rfl
  rw [hw]
  simp only [Bool.false_eq_true, if_false]
  rw [Fr_put]
  exact hK _ _ h

/-! the same in a region whose order is drawn -/
variable {S : Act → Prop}

theorem sl_val (hrun : (execOp (ev n f) ⟨some d, op, ty, pos, aft, none⟩).run P w = .ok (.value v) w) (h : wpStill P ops w S rest (Fr n (upd f d v))) : wpStill P ops w S (⟨some d, op, ty, pos, aft, none⟩ :: rest) (Fr n f) := by
  refine wpStill_step fun K hK => ?_
  simp only [Region.wanted, if_true]
  unfold Oper.still
  rw [Fr_eval, hrun, Oper.stillUpon_value]
  show K ((Fr n f).put (some d) v)
  rw [Fr_put]
  exact hK _ h

theorem sl_val_on {j e : Nat} {b : Bool} {oj : Oper} (hj : ops[j]? = some oj) (hd : oj.dst = some e) (hn : Nat.blt e n = true) (he : ev n f (.tmp e) = .bool b)
    (hrun : (execOp (ev n f) ⟨some d, op, ty, pos, aft, some (j, b)⟩).run P w = .ok (.value v) w) (h : wpStill P ops w S rest (Fr n (upd f d v))) : wpStill P ops w S (⟨some d, op, ty, pos, aft, some (j, b)⟩ :: rest) (Fr n f) := by
  refine wpStill_step fun K hK => ?_
  have hw : Region.wanted (⟨some d, op, ty, pos, aft, some (j, b)⟩ : Oper) (yielded ops (Fr n f).tmps) = true := by simp [Region.wanted, guard_on hj hd he hn]
  rw [if_pos hw]
  unfold Oper.still
  rw [Fr_eval, hrun, Oper.stillUpon_value]
  show K ((Fr n f).put (some d) v)
  rw [Fr_put]
  exact hK _ h

theorem sl_off {j e : Nat} {b : Bool} {oj : Oper} (hj : ops[j]? = some oj) (hd : oj.dst = some e) (hn : Nat.blt e n = true) (he : ev n f (.tmp e) = .bool (!b))
    (h : wpStill P ops w S rest (Fr n (upd f d undef))) : wpStill P ops w S (⟨some d, op, ty, pos, aft, some (j, b)⟩ :: rest) (Fr n f) := by
  refine wpStill_step fun K hK => ?_
  have hw : Region.wanted (⟨some d, op, ty, pos, aft, some (j, b)⟩ : Oper) (yielded ops (Fr n f).tmps) = false := by
    simp only [Region.wanted, guard_on hj hd he hn]
    cases b <;> rfl
  rw [hw]
  simp only [Bool.false_eq_true, if_false]
  rw [Fr_put]
  exact hK _ h

theorem sl_call {g : FuncId} {args : Array Value} (u : Value) (hrun : (execOp (ev n f) ⟨some d, op, ty, pos, aft, none⟩).run P w = .ok (.enter g args) w)
    (hc : Calls P g args w fun e w1 => e = .returned u ∧ w1 = w) (h : wpStill P ops w S rest (Fr n (upd f d u))) : wpStill P ops w S (⟨some d, op, ty, pos, aft, none⟩ :: rest) (Fr n f) := by
  refine wpStill_step fun K hK => ?_
  simp only [Region.wanted, if_true]
  unfold Oper.still
  rw [Fr_eval, hrun]
  refine ⟨rfl, u, hc, ?_⟩
  show K ((Fr n f).put (some d) u)
  rw [Fr_put]
  exact hK _ h

theorem sl_call_on {j e : Nat} {b : Bool} {oj : Oper} {g : FuncId} {args : Array Value} (u : Value) (hj : ops[j]? = some oj) (hd : oj.dst = some e) (hn : Nat.blt e n = true) (he : ev n f (.tmp e) = .bool b)
    (hrun : (execOp (ev n f) ⟨some d, op, ty, pos, aft, some (j, b)⟩).run P w = .ok (.enter g args) w)
    (hc : Calls P g args w fun e w1 => e = .returned u ∧ w1 = w) (h : wpStill P ops w S rest (Fr n (upd f d u))) : wpStill P ops w S (⟨some d, op, ty, pos, aft, some (j, b)⟩ :: rest) (Fr n f) := by
  refine wpStill_step fun K hK => ?_
  have hw : Region.wanted (⟨some d, op, ty, pos, aft, some (j, b)⟩ : Oper) (yielded ops (Fr n f).tmps) = true := by simp [Region.wanted, guard_on hj hd he hn]
  rw [if_pos hw]
  unfold Oper.still
  rw [Fr_eval, hrun]
  refine ⟨rfl, u, hc, ?_⟩
  show K ((Fr n f).put (some d) u)
  rw [Fr_put]
  exact hK _ h
end

/-! ### control -/
section
variable {P : Program} {n : Nat} {f : Nat → Value} {w : World} {Q : Exit → Act → World → Prop} {x : Operand} {a b : Code}

theorem cond_yes (h : ev n f x = .bool true) (hk : a.wp P Q (Fr n f) w) : (Code.cond x a b).wp P Q (Fr n f) w := wp_cond_true (by rw [Fr_eval]; exact h) hk
theorem cond_no (h : ev n f x = .bool false) (hk : b.wp P Q (Fr n f) w) : (Code.cond x a b).wp P Q (Fr n f) w := wp_cond_false (by rw [Fr_eval]; exact h) hk

theorem exists_least {p : Nat → Prop} (h : ∃ m, p m) : ∃ m, p m ∧ ∀ k, p k → m ≤ k := by
  obtain ⟨m, hm⟩ := h
  induction m using Nat.strongRecOn with
  | _ m ih =>
    by_cases hx : ∃ k, k < m ∧ p k
    · obtain ⟨k, hk, hp⟩ := hx
      exact ih k hk hp
    · exact ⟨m, hm, fun k hk => Nat.le_of_not_lt fun hlt => hx ⟨k, hlt, hk⟩⟩

/-- A loop with a ghost. -/
theorem loop_ghost {ι : Type} (I : ι → Act → World → Prop) (μ : ι → Nat) {c : Code} {A : Act} (i0 : ι) (h0 : I i0 A w)
    (round : ∀ i A w, I i A w → c.wp P (Exit.then (fun A' w' => ∃ i', I i' A' w' ∧ μ i' < μ i) Q) A w) : (Code.loop c).wp P Q A w := by
  let μ' : Act → World → Nat := fun A w => Classical.epsilon fun m => (∃ i, I i A w ∧ μ i = m) ∧ ∀ k, (∃ i, I i A w ∧ μ i = k) → m ≤ k
  have hμ : ∀ A w i, I i A w → ∃ j, I j A w ∧ μ j = μ' A w ∧ μ' A w ≤ μ i := by
    intro A w i hi
    have hx : ∃ m, ∃ i, I i A w ∧ μ i = m := ⟨_, i, hi, rfl⟩
    obtain ⟨⟨j, hj, hjm⟩, hle⟩ := Classical.epsilon_spec (exists_least hx)
    exact ⟨j, hj, hjm, hle _ ⟨i, hi, rfl⟩⟩
  refine wp_loop (fun A w => ∃ i, I i A w) μ' ⟨i0, h0⟩ fun A w hI => ?_
  obtain ⟨i, hi⟩ := hI
  obtain ⟨j, hj, hjm, _⟩ := hμ A w i hi
  refine wp_mono (round j A w hj) fun e A' w' hq => ?_
  cases e with
  | normal =>
    obtain ⟨i', hi', hlt⟩ := hq
    obtain ⟨_, _, _, hle⟩ := hμ A' w' i' hi'
    exact ⟨⟨i', hi'⟩, by omega⟩
  | _ => exact hq
end
end Go.Proofs.Qxb6600002a
