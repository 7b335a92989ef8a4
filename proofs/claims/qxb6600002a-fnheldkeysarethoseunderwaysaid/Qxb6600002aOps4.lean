/-
  Guarded operations, the guard's slot found by a plain search: written by program (genops4.py).
-/
import Derived.Test.Qxb6600002aArr
namespace Go.Proofs.Qxb6600002a
set_option linter.unusedSimpArgs false
set_option linter.unusedVariables false
open Go.MapKept Go.ChangeMaps Go.RowKit

/-- The slot that operation j writes. -/
def dstOf : List Oper → Nat → Option Nat
  | [], _ => none
  | o :: _, 0 => o.dst
  | _ :: l, j + 1 => dstOf l j

theorem dstOf_eq : ∀ (l : List Oper) (j : Nat), dstOf l j = (l[j]?).bind (·.dst)
  | [], j => by simp [dstOf]
  | o :: l, 0 => by simp [dstOf]
  | o :: l, j + 1 => by simp [dstOf, dstOf_eq l j]

theorem guard_at {n : Nat} {f : Nat → Value} {l : List Oper} {j e : Nat} {b : Bool} (hd : dstOf l j = some e) (hn : Nat.blt e n = true) (he : ev n f (.tmp e) = .bool b) : ∃ oj, l.toArray[j]? = some oj ∧ oj.dst = some e := by
  rw [dstOf_eq] at hd
  cases hj : l[j]? with
  | none => simp [hj] at hd
  | some oj => exact ⟨oj, by simpa using hj, by simpa [hj] using hd⟩

section
variable {P : Program} {n : Nat} {f : Nat → Value} {w : World} {l : List Oper} {Q : Exit → Act → World → Prop} {S : Act → Prop} {rest : List Oper} {op : Op} {ty : TypeId} {pos : String} {aft : Array Edge} {d : Nat} {x y z : Operand} {v : Value} {k : IntKind} {a b : Int} {t t' e : TypeId} {p q : Bool} {s s' : ByteArray} {vs : Array Value} {i len c : Nat} {ao : Option Addr} {ad : Addr} {j ee : Nat} {bb : Bool}

theorem gl_val (hd : dstOf l j = some ee) (hnn : Nat.blt ee n = true) (he : ev n f (.tmp ee) = .bool bb) (hrun : (execOp (ev n f) ⟨some d, op, ty, pos, aft, some (j, bb)⟩).run P w = .ok (.value v) w) (h : wpStill P l.toArray w S rest (Fr n (upd f d v))) :
    wpStill P l.toArray w S (⟨some d, op, ty, pos, aft, some (j, bb)⟩ :: rest) (Fr n f) := by
  obtain ⟨oj, h1, h2⟩ := guard_at hd hnn he
  exact sl_val_on h1 h2 hnn he hrun h
theorem gl_off (hd : dstOf l j = some ee) (hnn : Nat.blt ee n = true) (he : ev n f (.tmp ee) = .bool (!bb)) (h : wpStill P l.toArray w S rest (Fr n (upd f d undef))) :
    wpStill P l.toArray w S (⟨some d, op, ty, pos, aft, some (j, bb)⟩ :: rest) (Fr n f) := by
  obtain ⟨oj, h1, h2⟩ := guard_at hd hnn he
  exact sl_off h1 h2 hnn he h
theorem vl_val {w' : World} (hd : dstOf l j = some ee) (hnn : Nat.blt ee n = true) (he : ev n f (.tmp ee) = .bool bb) (hrun : (execOp (ev n f) ⟨some d, op, ty, pos, aft, some (j, bb)⟩).run P w = .ok (.value v) w') (h : wpList P l.toArray Q rest (Fr n (upd f d v)) w') :
    wpList P l.toArray Q (⟨some d, op, ty, pos, aft, some (j, bb)⟩ :: rest) (Fr n f) w := by
  obtain ⟨oj, h1, h2⟩ := guard_at hd hnn he
  exact wl_val_on h1 h2 hnn he hrun h
theorem vl_off (hd : dstOf l j = some ee) (hnn : Nat.blt ee n = true) (he : ev n f (.tmp ee) = .bool (!bb)) (h : wpList P l.toArray Q rest (Fr n (upd f d undef)) w) :
    wpList P l.toArray Q (⟨some d, op, ty, pos, aft, some (j, bb)⟩ :: rest) (Fr n f) w := by
  obtain ⟨oj, h1, h2⟩ := guard_at hd hnn he
  exact wl_off h1 h2 hnn he h
theorem gg_mv (hd : dstOf l j = some ee) (hnn : Nat.blt ee n = true) (he : ev n f (.tmp ee) = .bool bb) (hx : ev n f x = v) (h : wpStill P l.toArray w S rest (Fr n (upd f d (v)))) : wpStill P l.toArray w S (⟨some d, .move x, ty, pos, aft, some (j, bb)⟩ :: rest) (Fr n f) := gl_val hd hnn he (ex_move hx) h
theorem vv_mv (hd : dstOf l j = some ee) (hnn : Nat.blt ee n = true) (he : ev n f (.tmp ee) = .bool bb) (hx : ev n f x = v) (h : wpList P l.toArray Q rest (Fr n (upd f d (v))) w) : wpList P l.toArray Q (⟨some d, .move x, ty, pos, aft, some (j, bb)⟩ :: rest) (Fr n f) w := vl_val hd hnn he (ex_move hx) h
theorem gg_as (hd : dstOf l j = some ee) (hnn : Nat.blt ee n = true) (he : ev n f (.tmp ee) = .bool bb) (hx : ev n f x = v) (h : wpStill P l.toArray w S rest (Fr n (upd f d (v)))) : wpStill P l.toArray w S (⟨some d, .assign x, ty, pos, aft, some (j, bb)⟩ :: rest) (Fr n f) := gl_val hd hnn he (ex_assign hx) h
theorem vv_as (hd : dstOf l j = some ee) (hnn : Nat.blt ee n = true) (he : ev n f (.tmp ee) = .bool bb) (hx : ev n f x = v) (h : wpList P l.toArray Q rest (Fr n (upd f d (v))) w) : wpList P l.toArray Q (⟨some d, .assign x, ty, pos, aft, some (j, bb)⟩ :: rest) (Fr n f) w := vl_val hd hnn he (ex_assign hx) h
theorem gg_ext (hd : dstOf l j = some ee) (hnn : Nat.blt ee n = true) (he : ev n f (.tmp ee) = .bool bb) (hx : ev n f x = .tuple vs) (hi : vs[i]? = some v) (h : wpStill P l.toArray w S rest (Fr n (upd f d (v)))) : wpStill P l.toArray w S (⟨some d, .extract x i, ty, pos, aft, some (j, bb)⟩ :: rest) (Fr n f) := gl_val hd hnn he (ex_extract hx hi) h
theorem vv_ext (hd : dstOf l j = some ee) (hnn : Nat.blt ee n = true) (he : ev n f (.tmp ee) = .bool bb) (hx : ev n f x = .tuple vs) (hi : vs[i]? = some v) (h : wpList P l.toArray Q rest (Fr n (upd f d (v))) w) : wpList P l.toArray Q (⟨some d, .extract x i, ty, pos, aft, some (j, bb)⟩ :: rest) (Fr n f) w := vl_val hd hnn he (ex_extract hx hi) h
theorem gg_lss (hd : dstOf l j = some ee) (hnn : Nat.blt ee n = true) (he : ev n f (.tmp ee) = .bool bb) (hx : ev n f x = .int k a) (hy : ev n f y = .int k b) (h : wpStill P l.toArray w S rest (Fr n (upd f d (.bool (decide (a < b)))))) : wpStill P l.toArray w S (⟨some d, .binOp .lss t x y t', ty, pos, aft, some (j, bb)⟩ :: rest) (Fr n f) := gl_val hd hnn he (ex_lss hx hy) h
theorem vv_lss (hd : dstOf l j = some ee) (hnn : Nat.blt ee n = true) (he : ev n f (.tmp ee) = .bool bb) (hx : ev n f x = .int k a) (hy : ev n f y = .int k b) (h : wpList P l.toArray Q rest (Fr n (upd f d (.bool (decide (a < b))))) w) : wpList P l.toArray Q (⟨some d, .binOp .lss t x y t', ty, pos, aft, some (j, bb)⟩ :: rest) (Fr n f) w := vl_val hd hnn he (ex_lss hx hy) h
theorem gg_gtr (hd : dstOf l j = some ee) (hnn : Nat.blt ee n = true) (he : ev n f (.tmp ee) = .bool bb) (hx : ev n f x = .int k a) (hy : ev n f y = .int k b) (h : wpStill P l.toArray w S rest (Fr n (upd f d (.bool (decide (a > b)))))) : wpStill P l.toArray w S (⟨some d, .binOp .gtr t x y t', ty, pos, aft, some (j, bb)⟩ :: rest) (Fr n f) := gl_val hd hnn he (ex_gtr hx hy) h
theorem vv_gtr (hd : dstOf l j = some ee) (hnn : Nat.blt ee n = true) (he : ev n f (.tmp ee) = .bool bb) (hx : ev n f x = .int k a) (hy : ev n f y = .int k b) (h : wpList P l.toArray Q rest (Fr n (upd f d (.bool (decide (a > b))))) w) : wpList P l.toArray Q (⟨some d, .binOp .gtr t x y t', ty, pos, aft, some (j, bb)⟩ :: rest) (Fr n f) w := vl_val hd hnn he (ex_gtr hx hy) h
theorem gg_geq (hd : dstOf l j = some ee) (hnn : Nat.blt ee n = true) (he : ev n f (.tmp ee) = .bool bb) (hx : ev n f x = .int k a) (hy : ev n f y = .int k b) (h : wpStill P l.toArray w S rest (Fr n (upd f d (.bool (decide (a ≥ b)))))) : wpStill P l.toArray w S (⟨some d, .binOp .geq t x y t', ty, pos, aft, some (j, bb)⟩ :: rest) (Fr n f) := gl_val hd hnn he (ex_geq hx hy) h
theorem vv_geq (hd : dstOf l j = some ee) (hnn : Nat.blt ee n = true) (he : ev n f (.tmp ee) = .bool bb) (hx : ev n f x = .int k a) (hy : ev n f y = .int k b) (h : wpList P l.toArray Q rest (Fr n (upd f d (.bool (decide (a ≥ b))))) w) : wpList P l.toArray Q (⟨some d, .binOp .geq t x y t', ty, pos, aft, some (j, bb)⟩ :: rest) (Fr n f) w := vl_val hd hnn he (ex_geq hx hy) h
theorem gg_eql (hd : dstOf l j = some ee) (hnn : Nat.blt ee n = true) (he : ev n f (.tmp ee) = .bool bb) (hx : ev n f x = .int k a) (hy : ev n f y = .int k b) (h : wpStill P l.toArray w S rest (Fr n (upd f d (.bool (decide (a = b)))))) : wpStill P l.toArray w S (⟨some d, .binOp .eql t x y t', ty, pos, aft, some (j, bb)⟩ :: rest) (Fr n f) := gl_val hd hnn he (ex_eql hx hy) h
theorem vv_eql (hd : dstOf l j = some ee) (hnn : Nat.blt ee n = true) (he : ev n f (.tmp ee) = .bool bb) (hx : ev n f x = .int k a) (hy : ev n f y = .int k b) (h : wpList P l.toArray Q rest (Fr n (upd f d (.bool (decide (a = b))))) w) : wpList P l.toArray Q (⟨some d, .binOp .eql t x y t', ty, pos, aft, some (j, bb)⟩ :: rest) (Fr n f) w := vl_val hd hnn he (ex_eql hx hy) h
theorem gg_neq (hd : dstOf l j = some ee) (hnn : Nat.blt ee n = true) (he : ev n f (.tmp ee) = .bool bb) (hx : ev n f x = .int k a) (hy : ev n f y = .int k b) (h : wpStill P l.toArray w S rest (Fr n (upd f d (.bool (!decide (a = b)))))) : wpStill P l.toArray w S (⟨some d, .binOp .neq t x y t', ty, pos, aft, some (j, bb)⟩ :: rest) (Fr n f) := gl_val hd hnn he (ex_neq hx hy) h
theorem vv_neq (hd : dstOf l j = some ee) (hnn : Nat.blt ee n = true) (he : ev n f (.tmp ee) = .bool bb) (hx : ev n f x = .int k a) (hy : ev n f y = .int k b) (h : wpList P l.toArray Q rest (Fr n (upd f d (.bool (!decide (a = b))))) w) : wpList P l.toArray Q (⟨some d, .binOp .neq t x y t', ty, pos, aft, some (j, bb)⟩ :: rest) (Fr n f) w := vl_val hd hnn he (ex_neq hx hy) h
theorem gg_seql (hd : dstOf l j = some ee) (hnn : Nat.blt ee n = true) (he : ev n f (.tmp ee) = .bool bb) (hx : ev n f x = .string s) (hy : ev n f y = .string s') (h : wpStill P l.toArray w S rest (Fr n (upd f d (.bool (decide (s = s')))))) : wpStill P l.toArray w S (⟨some d, .binOp .eql t x y t', ty, pos, aft, some (j, bb)⟩ :: rest) (Fr n f) := gl_val hd hnn he (ex_str_eql hx hy) h
theorem vv_seql (hd : dstOf l j = some ee) (hnn : Nat.blt ee n = true) (he : ev n f (.tmp ee) = .bool bb) (hx : ev n f x = .string s) (hy : ev n f y = .string s') (h : wpList P l.toArray Q rest (Fr n (upd f d (.bool (decide (s = s'))))) w) : wpList P l.toArray Q (⟨some d, .binOp .eql t x y t', ty, pos, aft, some (j, bb)⟩ :: rest) (Fr n f) w := vl_val hd hnn he (ex_str_eql hx hy) h
theorem gg_sneq (hd : dstOf l j = some ee) (hnn : Nat.blt ee n = true) (he : ev n f (.tmp ee) = .bool bb) (hx : ev n f x = .string s) (hy : ev n f y = .string s') (h : wpStill P l.toArray w S rest (Fr n (upd f d (.bool (!decide (s = s')))))) : wpStill P l.toArray w S (⟨some d, .binOp .neq t x y t', ty, pos, aft, some (j, bb)⟩ :: rest) (Fr n f) := gl_val hd hnn he (ex_str_neq hx hy) h
theorem vv_sneq (hd : dstOf l j = some ee) (hnn : Nat.blt ee n = true) (he : ev n f (.tmp ee) = .bool bb) (hx : ev n f x = .string s) (hy : ev n f y = .string s') (h : wpList P l.toArray Q rest (Fr n (upd f d (.bool (!decide (s = s'))))) w) : wpList P l.toArray Q (⟨some d, .binOp .neq t x y t', ty, pos, aft, some (j, bb)⟩ :: rest) (Fr n f) w := vl_val hd hnn he (ex_str_neq hx hy) h
theorem gg_beql (hd : dstOf l j = some ee) (hnn : Nat.blt ee n = true) (he : ev n f (.tmp ee) = .bool bb) (ht : P.underlying t = some .bool) (hx : ev n f x = .bool p) (hy : ev n f y = .bool q) (h : wpStill P l.toArray w S rest (Fr n (upd f d (.bool (p == q))))) : wpStill P l.toArray w S (⟨some d, .binOp .eql t x y t', ty, pos, aft, some (j, bb)⟩ :: rest) (Fr n f) := gl_val hd hnn he (ex_bool_eql ht hx hy) h
theorem vv_beql (hd : dstOf l j = some ee) (hnn : Nat.blt ee n = true) (he : ev n f (.tmp ee) = .bool bb) (ht : P.underlying t = some .bool) (hx : ev n f x = .bool p) (hy : ev n f y = .bool q) (h : wpList P l.toArray Q rest (Fr n (upd f d (.bool (p == q)))) w) : wpList P l.toArray Q (⟨some d, .binOp .eql t x y t', ty, pos, aft, some (j, bb)⟩ :: rest) (Fr n f) w := vl_val hd hnn he (ex_bool_eql ht hx hy) h
theorem gg_bneq (hd : dstOf l j = some ee) (hnn : Nat.blt ee n = true) (he : ev n f (.tmp ee) = .bool bb) (ht : P.underlying t = some .bool) (hx : ev n f x = .bool p) (hy : ev n f y = .bool q) (h : wpStill P l.toArray w S rest (Fr n (upd f d (.bool (!(p == q)))))) : wpStill P l.toArray w S (⟨some d, .binOp .neq t x y t', ty, pos, aft, some (j, bb)⟩ :: rest) (Fr n f) := gl_val hd hnn he (ex_bool_neq ht hx hy) h
theorem vv_bneq (hd : dstOf l j = some ee) (hnn : Nat.blt ee n = true) (he : ev n f (.tmp ee) = .bool bb) (ht : P.underlying t = some .bool) (hx : ev n f x = .bool p) (hy : ev n f y = .bool q) (h : wpList P l.toArray Q rest (Fr n (upd f d (.bool (!(p == q))))) w) : wpList P l.toArray Q (⟨some d, .binOp .neq t x y t', ty, pos, aft, some (j, bb)⟩ :: rest) (Fr n f) w := vl_val hd hnn he (ex_bool_neq ht hx hy) h
theorem gg_nc (hd : dstOf l j = some ee) (hnn : Nat.blt ee n = true) (he : ev n f (.tmp ee) = .bool bb) (hx : ev n f x = .pointer (some ad)) (h : wpStill P l.toArray w S rest (Fr n (upd f d (.pointer (some ad))))) : wpStill P l.toArray w S (⟨some d, .nilCheck x, ty, pos, aft, some (j, bb)⟩ :: rest) (Fr n f) := gl_val hd hnn he (ex_nilCheck hx) h
theorem vv_nc (hd : dstOf l j = some ee) (hnn : Nat.blt ee n = true) (he : ev n f (.tmp ee) = .bool bb) (hx : ev n f x = .pointer (some ad)) (h : wpList P l.toArray Q rest (Fr n (upd f d (.pointer (some ad)))) w) : wpList P l.toArray Q (⟨some d, .nilCheck x, ty, pos, aft, some (j, bb)⟩ :: rest) (Fr n f) w := vl_val hd hnn he (ex_nilCheck hx) h
theorem gg_lens (hd : dstOf l j = some ee) (hnn : Nat.blt ee n = true) (he : ev n f (.tmp ee) = .bool bb) (ht : P.underlying t = some (.slice e)) (hx : ev n f x = .slice ao len c) (h : wpStill P l.toArray w S rest (Fr n (upd f d (.int .i64 len)))) : wpStill P l.toArray w S (⟨some d, .call { callee := .builtin .len, args := #[x], argTypes := #[t] }, ty, pos, aft, some (j, bb)⟩ :: rest) (Fr n f) := gl_val hd hnn he (ex_len_slice ht hx) h
theorem vv_lens (hd : dstOf l j = some ee) (hnn : Nat.blt ee n = true) (he : ev n f (.tmp ee) = .bool bb) (ht : P.underlying t = some (.slice e)) (hx : ev n f x = .slice ao len c) (h : wpList P l.toArray Q rest (Fr n (upd f d (.int .i64 len))) w) : wpList P l.toArray Q (⟨some d, .call { callee := .builtin .len, args := #[x], argTypes := #[t] }, ty, pos, aft, some (j, bb)⟩ :: rest) (Fr n f) w := vl_val hd hnn he (ex_len_slice ht hx) h
theorem gg_lenstr (hd : dstOf l j = some ee) (hnn : Nat.blt ee n = true) (he : ev n f (.tmp ee) = .bool bb) (ht : P.underlying t = some .string) (hx : ev n f x = .string s) (h : wpStill P l.toArray w S rest (Fr n (upd f d (.int .i64 s.size)))) : wpStill P l.toArray w S (⟨some d, .call { callee := .builtin .len, args := #[x], argTypes := #[t] }, ty, pos, aft, some (j, bb)⟩ :: rest) (Fr n f) := gl_val hd hnn he (ex_len_string ht hx) h
theorem vv_lenstr (hd : dstOf l j = some ee) (hnn : Nat.blt ee n = true) (he : ev n f (.tmp ee) = .bool bb) (ht : P.underlying t = some .string) (hx : ev n f x = .string s) (h : wpList P l.toArray Q rest (Fr n (upd f d (.int .i64 s.size))) w) : wpList P l.toArray Q (⟨some d, .call { callee := .builtin .len, args := #[x], argTypes := #[t] }, ty, pos, aft, some (j, bb)⟩ :: rest) (Fr n f) w := vl_val hd hnn he (ex_len_string ht hx) h
theorem gg_not (hd : dstOf l j = some ee) (hnn : Nat.blt ee n = true) (he : ev n f (.tmp ee) = .bool bb) (hx : ev n f x = .bool p) (h : wpStill P l.toArray w S rest (Fr n (upd f d (.bool !p)))) : wpStill P l.toArray w S (⟨some d, .unOp .not t x, ty, pos, aft, some (j, bb)⟩ :: rest) (Fr n f) := gl_val hd hnn he (ex_not' hx) h
theorem vv_not (hd : dstOf l j = some ee) (hnn : Nat.blt ee n = true) (he : ev n f (.tmp ee) = .bool bb) (hx : ev n f x = .bool p) (h : wpList P l.toArray Q rest (Fr n (upd f d (.bool !p))) w) : wpList P l.toArray Q (⟨some d, .unOp .not t x, ty, pos, aft, some (j, bb)⟩ :: rest) (Fr n f) w := vl_val hd hnn he (ex_not' hx) h
theorem gg_picky (hd : dstOf l j = some ee) (hnn : Nat.blt ee n = true) (he : ev n f (.tmp ee) = .bool bb) (hx : ev n f x = .bool true) (hy : ev n f y = v) (h : wpStill P l.toArray w S rest (Fr n (upd f d (v)))) : wpStill P l.toArray w S (⟨some d, .pick x y z, ty, pos, aft, some (j, bb)⟩ :: rest) (Fr n f) := gl_val hd hnn he (ex_pick_yes hx hy) h
theorem vv_picky (hd : dstOf l j = some ee) (hnn : Nat.blt ee n = true) (he : ev n f (.tmp ee) = .bool bb) (hx : ev n f x = .bool true) (hy : ev n f y = v) (h : wpList P l.toArray Q rest (Fr n (upd f d (v))) w) : wpList P l.toArray Q (⟨some d, .pick x y z, ty, pos, aft, some (j, bb)⟩ :: rest) (Fr n f) w := vl_val hd hnn he (ex_pick_yes hx hy) h
theorem gg_pickn (hd : dstOf l j = some ee) (hnn : Nat.blt ee n = true) (he : ev n f (.tmp ee) = .bool bb) (hx : ev n f x = .bool false) (hz : ev n f z = v) (h : wpStill P l.toArray w S rest (Fr n (upd f d (v)))) : wpStill P l.toArray w S (⟨some d, .pick x y z, ty, pos, aft, some (j, bb)⟩ :: rest) (Fr n f) := gl_val hd hnn he (ex_pick_no hx hz) h
theorem vv_pickn (hd : dstOf l j = some ee) (hnn : Nat.blt ee n = true) (he : ev n f (.tmp ee) = .bool bb) (hx : ev n f x = .bool false) (hz : ev n f z = v) (h : wpList P l.toArray Q rest (Fr n (upd f d (v))) w) : wpList P l.toArray Q (⟨some d, .pick x y z, ty, pos, aft, some (j, bb)⟩ :: rest) (Fr n f) w := vl_val hd hnn he (ex_pick_no hx hz) h
theorem gg_load (hd : dstOf l j = some ee) (hnn : Nat.blt ee n = true) (he : ev n f (.tmp ee) = .bool bb) {u : TypeDesc} (hu : P.underlying t = some u) (hn : notAgg u = true) (hx : ev n f x = .pointer (some ad)) (hc : w.cell? ad = some v) (h : wpStill P l.toArray w S rest (Fr n (upd f d (v)))) : wpStill P l.toArray w S (⟨some d, .load t x, ty, pos, aft, some (j, bb)⟩ :: rest) (Fr n f) := gl_val hd hnn he (ex_load hu hn hx hc) h
theorem vv_load (hd : dstOf l j = some ee) (hnn : Nat.blt ee n = true) (he : ev n f (.tmp ee) = .bool bb) {u : TypeDesc} (hu : P.underlying t = some u) (hn : notAgg u = true) (hx : ev n f x = .pointer (some ad)) (hc : w.cell? ad = some v) (h : wpList P l.toArray Q rest (Fr n (upd f d (v))) w) : wpList P l.toArray Q (⟨some d, .load t x, ty, pos, aft, some (j, bb)⟩ :: rest) (Fr n f) w := vl_val hd hnn he (ex_load hu hn hx hc) h
end

section
variable {n : Nat} {f : Nat → Value} {w : World} {l : List Oper} {Q : Exit → Act → World → Prop} {S : Act → Prop} {rest : List Oper} {ty : TypeId} {pos : String} {aft : Array Edge} {d : Nat} {fid : FuncId} {ts : Array TypeId} {j ee : Nat} {bb : Bool}
theorem gg_call1 {x0 : Operand} {v0 : Value} (u : Value) (hd : dstOf l j = some ee) (hnn : Nat.blt ee n = true) (he : ev n f (.tmp ee) = .bool bb) (hc : CallOk fid) (h : Calls Try.prog fid #[v0] w fun e w1 => e = .returned u ∧ w1 = w) (h0 : ev n f x0 = v0) (hr : wpStill Try.prog l.toArray w S rest (Fr n (upd f d u))) :
    wpStill Try.prog l.toArray w S (⟨some d, .call { callee := .value (.func fid), args := #[x0], argTypes := ts }, ty, pos, aft, some (j, bb)⟩ :: rest) (Fr n f) := by
  obtain ⟨oj, q1, q2⟩ := guard_at hd hnn he
  exact g_call1 u q1 q2 hnn he hc h h0 hr
theorem vv_call1 {x0 : Operand} {v0 : Value} (hd : dstOf l j = some ee) (hnn : Nat.blt ee n = true) (he : ev n f (.tmp ee) = .bool bb) (hc : CallOk fid) (h : Calls Try.prog fid #[v0] w fun e w1 => ∃ u, e = .returned u ∧ wpList Try.prog l.toArray Q rest (Fr n (upd f d u)) w1) (h0 : ev n f x0 = v0) :
    wpList Try.prog l.toArray Q (⟨some d, .call { callee := .value (.func fid), args := #[x0], argTypes := ts }, ty, pos, aft, some (j, bb)⟩ :: rest) (Fr n f) w := by
  obtain ⟨oj, q1, q2⟩ := guard_at hd hnn he
  exact v_call1 q1 q2 hnn he hc h h0
theorem gg_call2 {x0 x1 : Operand} {v0 v1 : Value} (u : Value) (hd : dstOf l j = some ee) (hnn : Nat.blt ee n = true) (he : ev n f (.tmp ee) = .bool bb) (hc : CallOk fid) (h : Calls Try.prog fid #[v0, v1] w fun e w1 => e = .returned u ∧ w1 = w) (h0 : ev n f x0 = v0) (h1 : ev n f x1 = v1) (hr : wpStill Try.prog l.toArray w S rest (Fr n (upd f d u))) :
    wpStill Try.prog l.toArray w S (⟨some d, .call { callee := .value (.func fid), args := #[x0, x1], argTypes := ts }, ty, pos, aft, some (j, bb)⟩ :: rest) (Fr n f) := by
  obtain ⟨oj, q1, q2⟩ := guard_at hd hnn he
  exact g_call2 u q1 q2 hnn he hc h h0 h1 hr
theorem vv_call2 {x0 x1 : Operand} {v0 v1 : Value} (hd : dstOf l j = some ee) (hnn : Nat.blt ee n = true) (he : ev n f (.tmp ee) = .bool bb) (hc : CallOk fid) (h : Calls Try.prog fid #[v0, v1] w fun e w1 => ∃ u, e = .returned u ∧ wpList Try.prog l.toArray Q rest (Fr n (upd f d u)) w1) (h0 : ev n f x0 = v0) (h1 : ev n f x1 = v1) :
    wpList Try.prog l.toArray Q (⟨some d, .call { callee := .value (.func fid), args := #[x0, x1], argTypes := ts }, ty, pos, aft, some (j, bb)⟩ :: rest) (Fr n f) w := by
  obtain ⟨oj, q1, q2⟩ := guard_at hd hnn he
  exact v_call2 q1 q2 hnn he hc h h0 h1
end

/-! ### the region's list behind a letter -/
/-- Operation j of the region writes slot e. -/
def GD (ops : Array Oper) (j e : Nat) : Prop := (ops[j]?).bind (·.dst) = some e

section
variable {P : Program} {n : Nat} {f : Nat → Value} {w : World} {ops : Array Oper} {l : List Oper} {Q : Exit → Act → World → Prop} {S : Act → Prop} {rest : List Oper} {op : Op} {ty : TypeId} {pos : String} {aft : Array Edge} {d : Nat} {x y z : Operand} {v : Value} {k : IntKind} {a b : Int} {t t' e : TypeId} {j ee : Nat} {bb p : Bool} {id : Nat} {A : Act}

theorem gd_of (h : dstOf l j = some ee) : GD l.toArray j ee := by
  rw [dstOf_eq] at h
  simpa [GD] using h
theorem GD.oper (h : GD ops j ee) : ∃ oj, ops[j]? = some oj ∧ oj.dst = some ee := by
  unfold GD at h
  cases hj : ops[j]? with
  | none => simp [hj] at h
  | some oj => exact ⟨oj, rfl, by simpa [hj] using h⟩

theorem still1 (j ee : Nat) (hm : P.follows .mixedOrders = true) (hB : Region.lexB .any l.toArray = true) (h1 : dstOf l j = some ee) (h : ∀ ops, GD ops j ee → wpStill P ops w.drew (fun a' => Q .normal a' w.drew) l A) :
    (Code.region id l.toArray true).wp P Q A w := region_still hm hB (h _ (gd_of h1))
theorem still2 (j ee j' ee' : Nat) (hm : P.follows .mixedOrders = true) (hB : Region.lexB .any l.toArray = true) (h1 : dstOf l j = some ee) (h2 : dstOf l j' = some ee') (h : ∀ ops, GD ops j ee → GD ops j' ee' → wpStill P ops w.drew (fun a' => Q .normal a' w.drew) l A) :
    (Code.region id l.toArray true).wp P Q A w := region_still hm hB (h _ (gd_of h1) (gd_of h2))
theorem plain1 (j ee : Nat) (h1 : dstOf l j = some ee) (h : ∀ ops, GD ops j ee → wpList P ops Q l A w) : (Code.region id l.toArray false).wp P Q A w := wp_region_lit (h _ (gd_of h1))

theorem gk_val (hg : GD ops j ee) (hnn : Nat.blt ee n = true) (he : ev n f (.tmp ee) = .bool bb) (hrun : (execOp (ev n f) ⟨some d, op, ty, pos, aft, some (j, bb)⟩).run P w = .ok (.value v) w) (h : wpStill P ops w S rest (Fr n (upd f d v))) :
    wpStill P ops w S (⟨some d, op, ty, pos, aft, some (j, bb)⟩ :: rest) (Fr n f) := by
  obtain ⟨oj, h1, h2⟩ := hg.oper
  exact sl_val_on h1 h2 hnn he hrun h
theorem gk_off (hg : GD ops j ee) (hnn : Nat.blt ee n = true) (he : ev n f (.tmp ee) = .bool (!bb)) (h : wpStill P ops w S rest (Fr n (upd f d undef))) :
    wpStill P ops w S (⟨some d, op, ty, pos, aft, some (j, bb)⟩ :: rest) (Fr n f) := by
  obtain ⟨oj, h1, h2⟩ := hg.oper
  exact sl_off h1 h2 hnn he h
theorem vk_val {w' : World} (hg : GD ops j ee) (hnn : Nat.blt ee n = true) (he : ev n f (.tmp ee) = .bool bb) (hrun : (execOp (ev n f) ⟨some d, op, ty, pos, aft, some (j, bb)⟩).run P w = .ok (.value v) w') (h : wpList P ops Q rest (Fr n (upd f d v)) w') :
    wpList P ops Q (⟨some d, op, ty, pos, aft, some (j, bb)⟩ :: rest) (Fr n f) w := by
  obtain ⟨oj, h1, h2⟩ := hg.oper
  exact wl_val_on h1 h2 hnn he hrun h
theorem vk_off (hg : GD ops j ee) (hnn : Nat.blt ee n = true) (he : ev n f (.tmp ee) = .bool (!bb)) (h : wpList P ops Q rest (Fr n (upd f d undef)) w) :
    wpList P ops Q (⟨some d, op, ty, pos, aft, some (j, bb)⟩ :: rest) (Fr n f) w := by
  obtain ⟨oj, h1, h2⟩ := hg.oper
  exact wl_off h1 h2 hnn he h
end
section
variable {n : Nat} {f : Nat → Value} {w : World} {ops : Array Oper} {Q : Exit → Act → World → Prop} {S : Act → Prop} {rest : List Oper} {ty : TypeId} {pos : String} {aft : Array Edge} {d : Nat} {fid : FuncId} {ts : Array TypeId} {j ee : Nat} {bb : Bool}
theorem gk_call1 {x0 : Operand} {v0 : Value} (u : Value) (hg : GD ops j ee) (hnn : Nat.blt ee n = true) (he : ev n f (.tmp ee) = .bool bb) (hc : CallOk fid) (h : Calls Try.prog fid #[v0] w fun e w1 => e = .returned u ∧ w1 = w) (h0 : ev n f x0 = v0) (hr : wpStill Try.prog ops w S rest (Fr n (upd f d u))) :
    wpStill Try.prog ops w S (⟨some d, .call { callee := .value (.func fid), args := #[x0], argTypes := ts }, ty, pos, aft, some (j, bb)⟩ :: rest) (Fr n f) := by
  obtain ⟨oj, q1, q2⟩ := hg.oper
  exact g_call1 u q1 q2 hnn he hc h h0 hr
theorem vk_call1 {x0 : Operand} {v0 : Value} (hg : GD ops j ee) (hnn : Nat.blt ee n = true) (he : ev n f (.tmp ee) = .bool bb) (hc : CallOk fid) (h : Calls Try.prog fid #[v0] w fun e w1 => ∃ u, e = .returned u ∧ wpList Try.prog ops Q rest (Fr n (upd f d u)) w1) (h0 : ev n f x0 = v0) :
    wpList Try.prog ops Q (⟨some d, .call { callee := .value (.func fid), args := #[x0], argTypes := ts }, ty, pos, aft, some (j, bb)⟩ :: rest) (Fr n f) w := by
  obtain ⟨oj, q1, q2⟩ := hg.oper
  exact v_call1 q1 q2 hnn he hc h h0
theorem gk_call2 {x0 x1 : Operand} {v0 v1 : Value} (u : Value) (hg : GD ops j ee) (hnn : Nat.blt ee n = true) (he : ev n f (.tmp ee) = .bool bb) (hc : CallOk fid) (h : Calls Try.prog fid #[v0, v1] w fun e w1 => e = .returned u ∧ w1 = w) (h0 : ev n f x0 = v0) (h1 : ev n f x1 = v1) (hr : wpStill Try.prog ops w S rest (Fr n (upd f d u))) :
    wpStill Try.prog ops w S (⟨some d, .call { callee := .value (.func fid), args := #[x0, x1], argTypes := ts }, ty, pos, aft, some (j, bb)⟩ :: rest) (Fr n f) := by
  obtain ⟨oj, q1, q2⟩ := hg.oper
  exact g_call2 u q1 q2 hnn he hc h h0 h1 hr
theorem vk_call2 {x0 x1 : Operand} {v0 v1 : Value} (hg : GD ops j ee) (hnn : Nat.blt ee n = true) (he : ev n f (.tmp ee) = .bool bb) (hc : CallOk fid) (h : Calls Try.prog fid #[v0, v1] w fun e w1 => ∃ u, e = .returned u ∧ wpList Try.prog ops Q rest (Fr n (upd f d u)) w1) (h0 : ev n f x0 = v0) (h1 : ev n f x1 = v1) :
    wpList Try.prog ops Q (⟨some d, .call { callee := .value (.func fid), args := #[x0, x1], argTypes := ts }, ty, pos, aft, some (j, bb)⟩ :: rest) (Fr n f) w := by
  obtain ⟨oj, q1, q2⟩ := hg.oper
  exact v_call2 q1 q2 hnn he hc h h0 h1
end
end Go.Proofs.Qxb6600002a
