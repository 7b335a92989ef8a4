/-
  Calls of the program's own functions, at the operation; sameKeys, keyIndex.
-/
import Derived.Test.Qxb6600002aBytes
namespace Go.Proofs.Qxb6600002a
set_option linter.unusedSimpArgs false
set_option linter.unusedVariables false
open Go.MapKept Go.ChangeMaps Go.RowKit

/-- A function of the program that has a body. -/
def CallOk (fid : FuncId) : Prop := ∃ fn, Try.prog.funcs[fid]? = some fn ∧ fn.body ≠ none ∧ fn.name ≠ "runtime.NumGoroutine"
theorem ok_of {fid : FuncId} {fn : Func} {c : Code} (h : Try.prog.funcs[fid]? = some fn) (hb : fn.body = some c) (hn : (fn.name == "runtime.NumGoroutine") = false) : CallOk fid :=
  ⟨fn, h, by rw [hb]; exact Option.some_ne_none _, fun e => by rw [e] at hn; simp at hn⟩
theorem ok8 : CallOk 8 := ok_of Try.func8 rfl (by kernel_rfl)
theorem ok9 : CallOk 9 := ok_of Try.func9 rfl (by kernel_rfl)
theorem ok10 : CallOk 10 := ok_of Try.func10 rfl (by kernel_rfl)
theorem ok11 : CallOk 11 := ok_of Try.func11 rfl (by kernel_rfl)
theorem ok12 : CallOk 12 := ok_of Try.func12 rfl (by kernel_rfl)
theorem ok13 : CallOk 13 := ok_of Try.func13 rfl (by kernel_rfl)
theorem ok14 : CallOk 14 := ok_of Try.func14 rfl (by kernel_rfl)
theorem ok15 : CallOk 15 := ok_of Try.func15 rfl (by kernel_rfl)
theorem ok16 : CallOk 16 := ok_of Try.func16 rfl (by kernel_rfl)
theorem ok17 : CallOk 17 := ok_of Try.func17 rfl (by kernel_rfl)
theorem ok18 : CallOk 18 := ok_of Try.func18 rfl (by kernel_rfl)
theorem ok19 : CallOk 19 := ok_of Try.func19 rfl (by kernel_rfl)
theorem ok20 : CallOk 20 := ok_of Try.func20 rfl (by kernel_rfl)
theorem ok21 : CallOk 21 := ok_of Try.func21 rfl (by kernel_rfl)
theorem ok22 : CallOk 22 := ok_of Try.func22 rfl (by kernel_rfl)
theorem ok23 : CallOk 23 := ok_of Try.func23 rfl (by kernel_rfl)
theorem ok24 : CallOk 24 := ok_of Try.func24 rfl (by kernel_rfl)
theorem ok25 : CallOk 25 := ok_of Try.func25 rfl (by kernel_rfl)
theorem ok26 : CallOk 26 := ok_of Try.func26 rfl (by kernel_rfl)
theorem ok27 : CallOk 27 := ok_of Try.func27 rfl (by kernel_rfl)
theorem ok28 : CallOk 28 := ok_of Try.func28 rfl (by kernel_rfl)

section
variable {n : Nat} {f : Nat → Value} {w : World} {ops : Array Oper} {Q : Exit → Act → World → Prop} {S : Act → Prop} {rest : List Oper} {ty : TypeId} {pos : String} {aft : Array Edge} {d : Nat} {fid : FuncId} {ts : Array TypeId}
theorem ex_call0 {dd : Option Tmp} {g : Option (Nat × Bool)} (hc : CallOk fid)  : (execOp (ev n f) ⟨dd, .call { callee := .value (.func fid), args := #[], argTypes := ts }, ty, pos, aft, g⟩).run Try.prog w = .ok (.enter fid #[]) w := by
  obtain ⟨fn, q1, q2, q3⟩ := hc
  rw [ex_call q1 q2 q3]
  simp
theorem w_call0 (hc : CallOk fid) (h : Calls Try.prog fid #[] w fun e w1 => ∃ u, e = .returned u ∧ wpList Try.prog ops Q rest (Fr n (upd f d u)) w1)  :
    wpList Try.prog ops Q (⟨some d, .call { callee := .value (.func fid), args := #[], argTypes := ts }, ty, pos, aft, none⟩ :: rest) (Fr n f) w := wl_call (ex_call0 hc ) h
theorem s_call0 (u : Value) (hc : CallOk fid) (h : Calls Try.prog fid #[] w fun e w1 => e = .returned u ∧ w1 = w)  (hr : wpStill Try.prog ops w S rest (Fr n (upd f d u))) :
    wpStill Try.prog ops w S (⟨some d, .call { callee := .value (.func fid), args := #[], argTypes := ts }, ty, pos, aft, none⟩ :: rest) (Fr n f) := sl_call u (ex_call0 hc ) h hr
theorem g_call0 (u : Value) {j ee : Nat} {bb : Bool} {oj : Oper} (hj : ops[j]? = some oj) (hd : oj.dst = some ee) (hnn : Nat.blt ee n = true) (he : ev n f (.tmp ee) = .bool bb) (hc : CallOk fid) (h : Calls Try.prog fid #[] w fun e w1 => e = .returned u ∧ w1 = w)  (hr : wpStill Try.prog ops w S rest (Fr n (upd f d u))) :
    wpStill Try.prog ops w S (⟨some d, .call { callee := .value (.func fid), args := #[], argTypes := ts }, ty, pos, aft, some (j, bb)⟩ :: rest) (Fr n f) := sl_call_on u hj hd hnn he (ex_call0 hc ) h hr
theorem v_call0 {j ee : Nat} {bb : Bool} {oj : Oper} (hj : ops[j]? = some oj) (hd : oj.dst = some ee) (hnn : Nat.blt ee n = true) (he : ev n f (.tmp ee) = .bool bb) (hc : CallOk fid) (h : Calls Try.prog fid #[] w fun e w1 => ∃ u, e = .returned u ∧ wpList Try.prog ops Q rest (Fr n (upd f d u)) w1)  :
    wpList Try.prog ops Q (⟨some d, .call { callee := .value (.func fid), args := #[], argTypes := ts }, ty, pos, aft, some (j, bb)⟩ :: rest) (Fr n f) w := wl_call_on hj hd hnn he (ex_call0 hc ) h
theorem ex_call1 {x0 : Operand} {v0 : Value} {dd : Option Tmp} {g : Option (Nat × Bool)} (hc : CallOk fid) (h0 : ev n f x0 = v0) : (execOp (ev n f) ⟨dd, .call { callee := .value (.func fid), args := #[x0], argTypes := ts }, ty, pos, aft, g⟩).run Try.prog w = .ok (.enter fid #[v0]) w := by
  obtain ⟨fn, q1, q2, q3⟩ := hc
  rw [ex_call q1 q2 q3]
  simp [h0]
theorem w_call1 {x0 : Operand} {v0 : Value} (hc : CallOk fid) (h : Calls Try.prog fid #[v0] w fun e w1 => ∃ u, e = .returned u ∧ wpList Try.prog ops Q rest (Fr n (upd f d u)) w1) (h0 : ev n f x0 = v0) :
    wpList Try.prog ops Q (⟨some d, .call { callee := .value (.func fid), args := #[x0], argTypes := ts }, ty, pos, aft, none⟩ :: rest) (Fr n f) w := wl_call (ex_call1 hc h0) h
theorem s_call1 {x0 : Operand} {v0 : Value} (u : Value) (hc : CallOk fid) (h : Calls Try.prog fid #[v0] w fun e w1 => e = .returned u ∧ w1 = w) (h0 : ev n f x0 = v0) (hr : wpStill Try.prog ops w S rest (Fr n (upd f d u))) :
    wpStill Try.prog ops w S (⟨some d, .call { callee := .value (.func fid), args := #[x0], argTypes := ts }, ty, pos, aft, none⟩ :: rest) (Fr n f) := sl_call u (ex_call1 hc h0) h hr
theorem g_call1 {x0 : Operand} {v0 : Value} (u : Value) {j ee : Nat} {bb : Bool} {oj : Oper} (hj : ops[j]? = some oj) (hd : oj.dst = some ee) (hnn : Nat.blt ee n = true) (he : ev n f (.tmp ee) = .bool bb) (hc : CallOk fid) (h : Calls Try.prog fid #[v0] w fun e w1 => e = .returned u ∧ w1 = w) (h0 : ev n f x0 = v0) (hr : wpStill Try.prog ops w S rest (Fr n (upd f d u))) :
    wpStill Try.prog ops w S (⟨some d, .call { callee := .value (.func fid), args := #[x0], argTypes := ts }, ty, pos, aft, some (j, bb)⟩ :: rest) (Fr n f) := sl_call_on u hj hd hnn he (ex_call1 hc h0) h hr
theorem v_call1 {x0 : Operand} {v0 : Value} {j ee : Nat} {bb : Bool} {oj : Oper} (hj : ops[j]? = some oj) (hd : oj.dst = some ee) (hnn : Nat.blt ee n = true) (he : ev n f (.tmp ee) = .bool bb) (hc : CallOk fid) (h : Calls Try.prog fid #[v0] w fun e w1 => ∃ u, e = .returned u ∧ wpList Try.prog ops Q rest (Fr n (upd f d u)) w1) (h0 : ev n f x0 = v0) :
    wpList Try.prog ops Q (⟨some d, .call { callee := .value (.func fid), args := #[x0], argTypes := ts }, ty, pos, aft, some (j, bb)⟩ :: rest) (Fr n f) w := wl_call_on hj hd hnn he (ex_call1 hc h0) h
theorem ex_call2 {x0 x1 : Operand} {v0 v1 : Value} {dd : Option Tmp} {g : Option (Nat × Bool)} (hc : CallOk fid) (h0 : ev n f x0 = v0) (h1 : ev n f x1 = v1) : (execOp (ev n f) ⟨dd, .call { callee := .value (.func fid), args := #[x0, x1], argTypes := ts }, ty, pos, aft, g⟩).run Try.prog w = .ok (.enter fid #[v0, v1]) w := by
  obtain ⟨fn, q1, q2, q3⟩ := hc
  rw [ex_call q1 q2 q3]
  simp [h0, h1]
theorem w_call2 {x0 x1 : Operand} {v0 v1 : Value} (hc : CallOk fid) (h : Calls Try.prog fid #[v0, v1] w fun e w1 => ∃ u, e = .returned u ∧ wpList Try.prog ops Q rest (Fr n (upd f d u)) w1) (h0 : ev n f x0 = v0) (h1 : ev n f x1 = v1) :
    wpList Try.prog ops Q (⟨some d, .call { callee := .value (.func fid), args := #[x0, x1], argTypes := ts }, ty, pos, aft, none⟩ :: rest) (Fr n f) w := wl_call (ex_call2 hc h0 h1) h
theorem s_call2 {x0 x1 : Operand} {v0 v1 : Value} (u : Value) (hc : CallOk fid) (h : Calls Try.prog fid #[v0, v1] w fun e w1 => e = .returned u ∧ w1 = w) (h0 : ev n f x0 = v0) (h1 : ev n f x1 = v1) (hr : wpStill Try.prog ops w S rest (Fr n (upd f d u))) :
    wpStill Try.prog ops w S (⟨some d, .call { callee := .value (.func fid), args := #[x0, x1], argTypes := ts }, ty, pos, aft, none⟩ :: rest) (Fr n f) := sl_call u (ex_call2 hc h0 h1) h hr
theorem g_call2 {x0 x1 : Operand} {v0 v1 : Value} (u : Value) {j ee : Nat} {bb : Bool} {oj : Oper} (hj : ops[j]? = some oj) (hd : oj.dst = some ee) (hnn : Nat.blt ee n = true) (he : ev n f (.tmp ee) = .bool bb) (hc : CallOk fid) (h : Calls Try.prog fid #[v0, v1] w fun e w1 => e = .returned u ∧ w1 = w) (h0 : ev n f x0 = v0) (h1 : ev n f x1 = v1) (hr : wpStill Try.prog ops w S rest (Fr n (upd f d u))) :
    wpStill Try.prog ops w S (⟨some d, .call { callee := .value (.func fid), args := #[x0, x1], argTypes := ts }, ty, pos, aft, some (j, bb)⟩ :: rest) (Fr n f) := sl_call_on u hj hd hnn he (ex_call2 hc h0 h1) h hr
theorem v_call2 {x0 x1 : Operand} {v0 v1 : Value} {j ee : Nat} {bb : Bool} {oj : Oper} (hj : ops[j]? = some oj) (hd : oj.dst = some ee) (hnn : Nat.blt ee n = true) (he : ev n f (.tmp ee) = .bool bb) (hc : CallOk fid) (h : Calls Try.prog fid #[v0, v1] w fun e w1 => ∃ u, e = .returned u ∧ wpList Try.prog ops Q rest (Fr n (upd f d u)) w1) (h0 : ev n f x0 = v0) (h1 : ev n f x1 = v1) :
    wpList Try.prog ops Q (⟨some d, .call { callee := .value (.func fid), args := #[x0, x1], argTypes := ts }, ty, pos, aft, some (j, bb)⟩ :: rest) (Fr n f) w := wl_call_on hj hd hnn he (ex_call2 hc h0 h1) h
theorem ex_call3 {x0 x1 x2 : Operand} {v0 v1 v2 : Value} {dd : Option Tmp} {g : Option (Nat × Bool)} (hc : CallOk fid) (h0 : ev n f x0 = v0) (h1 : ev n f x1 = v1) (h2 : ev n f x2 = v2) : (execOp (ev n f) ⟨dd, .call { callee := .value (.func fid), args := #[x0, x1, x2], argTypes := ts }, ty, pos, aft, g⟩).run Try.prog w = .ok (.enter fid #[v0, v1, v2]) w := by
  obtain ⟨fn, q1, q2, q3⟩ := hc
  rw [ex_call q1 q2 q3]
  simp [h0, h1, h2]
theorem w_call3 {x0 x1 x2 : Operand} {v0 v1 v2 : Value} (hc : CallOk fid) (h : Calls Try.prog fid #[v0, v1, v2] w fun e w1 => ∃ u, e = .returned u ∧ wpList Try.prog ops Q rest (Fr n (upd f d u)) w1) (h0 : ev n f x0 = v0) (h1 : ev n f x1 = v1) (h2 : ev n f x2 = v2) :
    wpList Try.prog ops Q (⟨some d, .call { callee := .value (.func fid), args := #[x0, x1, x2], argTypes := ts }, ty, pos, aft, none⟩ :: rest) (Fr n f) w := wl_call (ex_call3 hc h0 h1 h2) h
theorem s_call3 {x0 x1 x2 : Operand} {v0 v1 v2 : Value} (u : Value) (hc : CallOk fid) (h : Calls Try.prog fid #[v0, v1, v2] w fun e w1 => e = .returned u ∧ w1 = w) (h0 : ev n f x0 = v0) (h1 : ev n f x1 = v1) (h2 : ev n f x2 = v2) (hr : wpStill Try.prog ops w S rest (Fr n (upd f d u))) :
    wpStill Try.prog ops w S (⟨some d, .call { callee := .value (.func fid), args := #[x0, x1, x2], argTypes := ts }, ty, pos, aft, none⟩ :: rest) (Fr n f) := sl_call u (ex_call3 hc h0 h1 h2) h hr
theorem g_call3 {x0 x1 x2 : Operand} {v0 v1 v2 : Value} (u : Value) {j ee : Nat} {bb : Bool} {oj : Oper} (hj : ops[j]? = some oj) (hd : oj.dst = some ee) (hnn : Nat.blt ee n = true) (he : ev n f (.tmp ee) = .bool bb) (hc : CallOk fid) (h : Calls Try.prog fid #[v0, v1, v2] w fun e w1 => e = .returned u ∧ w1 = w) (h0 : ev n f x0 = v0) (h1 : ev n f x1 = v1) (h2 : ev n f x2 = v2) (hr : wpStill Try.prog ops w S rest (Fr n (upd f d u))) :
    wpStill Try.prog ops w S (⟨some d, .call { callee := .value (.func fid), args := #[x0, x1, x2], argTypes := ts }, ty, pos, aft, some (j, bb)⟩ :: rest) (Fr n f) := sl_call_on u hj hd hnn he (ex_call3 hc h0 h1 h2) h hr
theorem v_call3 {x0 x1 x2 : Operand} {v0 v1 v2 : Value} {j ee : Nat} {bb : Bool} {oj : Oper} (hj : ops[j]? = some oj) (hd : oj.dst = some ee) (hnn : Nat.blt ee n = true) (he : ev n f (.tmp ee) = .bool bb) (hc : CallOk fid) (h : Calls Try.prog fid #[v0, v1, v2] w fun e w1 => ∃ u, e = .returned u ∧ wpList Try.prog ops Q rest (Fr n (upd f d u)) w1) (h0 : ev n f x0 = v0) (h1 : ev n f x1 = v1) (h2 : ev n f x2 = v2) :
    wpList Try.prog ops Q (⟨some d, .call { callee := .value (.func fid), args := #[x0, x1, x2], argTypes := ts }, ty, pos, aft, some (j, bb)⟩ :: rest) (Fr n f) w := wl_call_on hj hd hnn he (ex_call3 hc h0 h1 h2) h
theorem ex_call4 {x0 x1 x2 x3 : Operand} {v0 v1 v2 v3 : Value} {dd : Option Tmp} {g : Option (Nat × Bool)} (hc : CallOk fid) (h0 : ev n f x0 = v0) (h1 : ev n f x1 = v1) (h2 : ev n f x2 = v2) (h3 : ev n f x3 = v3) : (execOp (ev n f) ⟨dd, .call { callee := .value (.func fid), args := #[x0, x1, x2, x3], argTypes := ts }, ty, pos, aft, g⟩).run Try.prog w = .ok (.enter fid #[v0, v1, v2, v3]) w := by
  obtain ⟨fn, q1, q2, q3⟩ := hc
  rw [ex_call q1 q2 q3]
  simp [h0, h1, h2, h3]
theorem w_call4 {x0 x1 x2 x3 : Operand} {v0 v1 v2 v3 : Value} (hc : CallOk fid) (h : Calls Try.prog fid #[v0, v1, v2, v3] w fun e w1 => ∃ u, e = .returned u ∧ wpList Try.prog ops Q rest (Fr n (upd f d u)) w1) (h0 : ev n f x0 = v0) (h1 : ev n f x1 = v1) (h2 : ev n f x2 = v2) (h3 : ev n f x3 = v3) :
    wpList Try.prog ops Q (⟨some d, .call { callee := .value (.func fid), args := #[x0, x1, x2, x3], argTypes := ts }, ty, pos, aft, none⟩ :: rest) (Fr n f) w := wl_call (ex_call4 hc h0 h1 h2 h3) h
theorem s_call4 {x0 x1 x2 x3 : Operand} {v0 v1 v2 v3 : Value} (u : Value) (hc : CallOk fid) (h : Calls Try.prog fid #[v0, v1, v2, v3] w fun e w1 => e = .returned u ∧ w1 = w) (h0 : ev n f x0 = v0) (h1 : ev n f x1 = v1) (h2 : ev n f x2 = v2) (h3 : ev n f x3 = v3) (hr : wpStill Try.prog ops w S rest (Fr n (upd f d u))) :
    wpStill Try.prog ops w S (⟨some d, .call { callee := .value (.func fid), args := #[x0, x1, x2, x3], argTypes := ts }, ty, pos, aft, none⟩ :: rest) (Fr n f) := sl_call u (ex_call4 hc h0 h1 h2 h3) h hr
theorem g_call4 {x0 x1 x2 x3 : Operand} {v0 v1 v2 v3 : Value} (u : Value) {j ee : Nat} {bb : Bool} {oj : Oper} (hj : ops[j]? = some oj) (hd : oj.dst = some ee) (hnn : Nat.blt ee n = true) (he : ev n f (.tmp ee) = .bool bb) (hc : CallOk fid) (h : Calls Try.prog fid #[v0, v1, v2, v3] w fun e w1 => e = .returned u ∧ w1 = w) (h0 : ev n f x0 = v0) (h1 : ev n f x1 = v1) (h2 : ev n f x2 = v2) (h3 : ev n f x3 = v3) (hr : wpStill Try.prog ops w S rest (Fr n (upd f d u))) :
    wpStill Try.prog ops w S (⟨some d, .call { callee := .value (.func fid), args := #[x0, x1, x2, x3], argTypes := ts }, ty, pos, aft, some (j, bb)⟩ :: rest) (Fr n f) := sl_call_on u hj hd hnn he (ex_call4 hc h0 h1 h2 h3) h hr
theorem v_call4 {x0 x1 x2 x3 : Operand} {v0 v1 v2 v3 : Value} {j ee : Nat} {bb : Bool} {oj : Oper} (hj : ops[j]? = some oj) (hd : oj.dst = some ee) (hnn : Nat.blt ee n = true) (he : ev n f (.tmp ee) = .bool bb) (hc : CallOk fid) (h : Calls Try.prog fid #[v0, v1, v2, v3] w fun e w1 => ∃ u, e = .returned u ∧ wpList Try.prog ops Q rest (Fr n (upd f d u)) w1) (h0 : ev n f x0 = v0) (h1 : ev n f x1 = v1) (h2 : ev n f x2 = v2) (h3 : ev n f x3 = v3) :
    wpList Try.prog ops Q (⟨some d, .call { callee := .value (.func fid), args := #[x0, x1, x2, x3], argTypes := ts }, ty, pos, aft, some (j, bb)⟩ :: rest) (Fr n f) w := wl_call_on hj hd hnn he (ex_call4 hc h0 h1 h2 h3) h
end
end Go.Proofs.Qxb6600002a
