/-
  What one operation of the program gives, over a frame 'ev n f'.
-/
import Derived.Test.Qxb6600002aEng
import Derived.Lib.SliceRun
namespace Go.Proofs.Qxb6600002a
set_option linter.unusedSimpArgs false
set_option linter.unusedVariables false
open Go.MapKept Go.ChangeMaps Go.RowKit

section
variable {P : Program} {n : Nat} {f : Nat → Value} {w : World} {ty : TypeId} {pos : String} {aft : Array Edge} {d : Option Tmp} {g : Option (Nat × Bool)} {x y z : Operand} {v : Value}

theorem ex_move (h : ev n f x = v) : (execOp (ev n f) ⟨d, .move x, ty, pos, aft, g⟩).run P w = .ok (.value v) w := by simp [execOp, h]
theorem ex_assign (h : ev n f x = v) : (execOp (ev n f) ⟨d, .assign x, ty, pos, aft, g⟩).run P w = .ok (.value v) w := by simp [execOp, h]
theorem ex_extract {vs : Array Value} {i : Nat} (h : ev n f x = .tuple vs) (hi : vs[i]? = some v) : (execOp (ev n f) ⟨d, .extract x i, ty, pos, aft, g⟩).run P w = .ok (.value v) w := by
  simp [execOp, h, Instr.extract, hi, Result.andThen]
theorem ex_pick_yes (hx : ev n f x = .bool true) (h : ev n f y = v) : (execOp (ev n f) ⟨d, .pick x y z, ty, pos, aft, g⟩).run P w = .ok (.value v) w := by simp [execOp, hx, h, asBool, Result.andThen]
theorem ex_pick_no (hx : ev n f x = .bool false) (h : ev n f z = v) : (execOp (ev n f) ⟨d, .pick x y z, ty, pos, aft, g⟩).run P w = .ok (.value v) w := by simp [execOp, hx, h, asBool, Result.andThen]
theorem ex_not {b : Bool} (h : ev n f x = .bool b) : (execOp (ev n f) ⟨d, .unOp .not ty x, ty, pos, aft, g⟩).run P w = .ok (.value (.bool !b)) w := by simp [execOp, h, Op.unary, Result.andThen]
theorem ex_nilCheck {a : Addr} (h : ev n f x = .pointer (some a)) : (execOp (ev n f) ⟨d, .nilCheck x, ty, pos, aft, g⟩).run P w = .ok (.value (.pointer (some a))) w := by simp [execOp, h, Result.andThen]

variable {k : IntKind} {a b : Int} {t t' : TypeId}
theorem ex_lss (hx : ev n f x = .int k a) (hy : ev n f y = .int k b) : (execOp (ev n f) ⟨d, .binOp .lss t x y t', ty, pos, aft, g⟩).run P w = .ok (.value (.bool (decide (a < b)))) w := by
  simp [execOp, hx, hy, eqGuard, binOp, Op.intCmp, Result.andThen]
theorem ex_gtr (hx : ev n f x = .int k a) (hy : ev n f y = .int k b) : (execOp (ev n f) ⟨d, .binOp .gtr t x y t', ty, pos, aft, g⟩).run P w = .ok (.value (.bool (decide (a > b)))) w := by
  simp [execOp, hx, hy, eqGuard, binOp, Op.intCmp, Result.andThen]
theorem ex_geq (hx : ev n f x = .int k a) (hy : ev n f y = .int k b) : (execOp (ev n f) ⟨d, .binOp .geq t x y t', ty, pos, aft, g⟩).run P w = .ok (.value (.bool (decide (a ≥ b)))) w := by
  simp [execOp, hx, hy, eqGuard, binOp, Op.intCmp, Result.andThen]
theorem ex_eql (hx : ev n f x = .int k a) (hy : ev n f y = .int k b) : (execOp (ev n f) ⟨d, .binOp .eql t x y t', ty, pos, aft, g⟩).run P w = .ok (.value (.bool (decide (a = b)))) w := by
  have : (a == b) = decide (a = b) := rfl
  simp [execOp, hx, hy, eqGuard, binOp, Op.intCmp, Result.andThen, this]
theorem ex_neq (hx : ev n f x = .int k a) (hy : ev n f y = .int k b) : (execOp (ev n f) ⟨d, .binOp .neq t x y t', ty, pos, aft, g⟩).run P w = .ok (.value (.bool (!decide (a = b)))) w := by
  have : (a != b) = !decide (a = b) := rfl
  simp [execOp, hx, hy, eqGuard, binOp, Op.intCmp, Result.andThen, this]
theorem ex_add (hx : ev n f x = .int k a) (hy : ev n f y = .int k b) : (execOp (ev n f) ⟨d, .binOp .add t x y t', ty, pos, aft, g⟩).run P w = .ok (.value (.int k (k.wrap (a + b)))) w := by
  simp [execOp, hx, hy, eqGuard, binOp, Op.intArith, Result.andThen]
theorem ex_sub (hx : ev n f x = .int k a) (hy : ev n f y = .int k b) : (execOp (ev n f) ⟨d, .binOp .sub t x y t', ty, pos, aft, g⟩).run P w = .ok (.value (.int k (k.wrap (a - b)))) w := by
  simp [execOp, hx, hy, eqGuard, binOp, Op.intArith, Result.andThen]
theorem ex_mul (hx : ev n f x = .int k a) (hy : ev n f y = .int k b) : (execOp (ev n f) ⟨d, .binOp .mul t x y t', ty, pos, aft, g⟩).run P w = .ok (.value (.int k (k.wrap (a * b)))) w := by
  simp [execOp, hx, hy, eqGuard, binOp, Op.intArith, Result.andThen]
theorem ex_rem (hx : ev n f x = .int k a) (hy : ev n f y = .int k b) (hb : b ≠ 0) : (execOp (ev n f) ⟨d, .binOp .rem t x y t', ty, pos, aft, g⟩).run P w = .ok (.value (.int k (a.tmod b))) w := by
  simp [execOp, hx, hy, eqGuard, binOp, Op.intDiv, hb, Result.andThen]
theorem ex_and (hx : ev n f x = .int k a) (hy : ev n f y = .int k b) : (execOp (ev n f) ⟨d, .binOp .and t x y t', ty, pos, aft, g⟩).run P w = .ok (.value (.int k (k.wrap (BitVec.ofInt k.bits a &&& BitVec.ofInt k.bits b).toNat))) w := by
  simp [execOp, hx, hy, eqGuard, binOp, Op.intBits, Result.andThen]
theorem ex_shl {k' : IntKind} (hx : ev n f x = .int k a) (hy : ev n f y = .int k' b) (hb : 0 ≤ b) : (execOp (ev n f) ⟨d, .binOp .shl t x y t', ty, pos, aft, g⟩).run P w = .ok (.value (.int k (k.wrap (a * 2 ^ (min b.toNat k.bits))))) w := by
  have : ¬ b < 0 := by omega
  simp [execOp, hx, hy, eqGuard, binOp, Op.shift, Result.andThen, this]
theorem ex_shr {k' : IntKind} (hx : ev n f x = .int k a) (hy : ev n f y = .int k' b) (hb : 0 ≤ b) : (execOp (ev n f) ⟨d, .binOp .shr t x y t', ty, pos, aft, g⟩).run P w = .ok (.value (.int k (a.fdiv (2 ^ (min b.toNat k.bits))))) w := by
  have : ¬ b < 0 := by omega
  simp [execOp, hx, hy, eqGuard, binOp, Op.shift, Result.andThen, this]
theorem ex_convert {dk : IntKind} {u : TypeDesc} (hs : P.underlying t = some u) (hd : P.underlying t' = some (.int dk)) (hx : ev n f x = .int k a) : (execOp (ev n f) ⟨d, .convert t t' x, ty, pos, aft, g⟩).run P w = .ok (.value (.int dk (dk.wrap a))) w := by
  cases u <;> simp [execOp, hx, convert, run_underlying hs, run_underlying hd, Conv.intToInt, Result.andThen]

theorem toList_beq (s s' : ByteArray) : (s.toList == s'.toList) = decide (s = s') := by
  rw [ByteArray.toList_eq, ByteArray.toList_eq]
  by_cases h : s = s'
  · subst h; simp
  · have : s.data.toList ≠ s'.data.toList := fun e => h (WideShapes.bytes_inj e)
    have e2 : (s.data.toList == s'.data.toList) = false := by
      cases hc : (s.data.toList == s'.data.toList) with
      | false => rfl
      | true => exact absurd (eq_of_beq hc) this
    rw [e2]; simp [h]

theorem ex_str_eql {s s' : ByteArray} (hx : ev n f x = .string s) (hy : ev n f y = .string s') : (execOp (ev n f) ⟨d, .binOp .eql t x y t', ty, pos, aft, g⟩).run P w = .ok (.value (.bool (decide (s = s')))) w := by
  have := toList_beq s s'
  simp [execOp, hx, hy, eqGuard, binOp, Op.stringOp, Result.andThen, this]
theorem ex_str_neq {s s' : ByteArray} (hx : ev n f x = .string s) (hy : ev n f y = .string s') : (execOp (ev n f) ⟨d, .binOp .neq t x y t', ty, pos, aft, g⟩).run P w = .ok (.value (.bool (!decide (s = s')))) w := by
  have := toList_beq s s'
  simp [execOp, hx, hy, eqGuard, binOp, Op.stringOp, Result.andThen, this]
theorem ex_bool_eql {p q : Bool} (ht : P.underlying t = some .bool) (hx : ev n f x = .bool p) (hy : ev n f y = .bool q) : (execOp (ev n f) ⟨d, .binOp .eql t x y t', ty, pos, aft, g⟩).run P w = .ok (.value (.bool (p == q))) w := by
  simp [execOp, hx, hy, eqGuard, run_eql_bool w t p q ht, Result.andThen]
theorem ex_bool_neq {p q : Bool} (ht : P.underlying t = some .bool) (hx : ev n f x = .bool p) (hy : ev n f y = .bool q) : (execOp (ev n f) ⟨d, .binOp .neq t x y t', ty, pos, aft, g⟩).run P w = .ok (.value (.bool (!(p == q)))) w := by
  simp [execOp, hx, hy, eqGuard, run_neq_bool w t p q ht, Result.andThen]

theorem ex_len_slice {e : TypeId} {ao : Option Addr} {l c : Nat} (ht : P.underlying t = some (.slice e)) (hx : ev n f x = .slice ao l c) :
    (execOp (ev n f) ⟨d, .call { callee := .builtin .len, args := #[x], argTypes := #[t] }, ty, pos, aft, g⟩).run P w = .ok (.value (.int .i64 l)) w := by
  simp [execOp, resolve, invoke, builtin, hx, Builtin.len_, run_underlying ht, goInt, Result.andThen]
theorem ex_len_string {s : ByteArray} (ht : P.underlying t = some .string) (hx : ev n f x = .string s) :
    (execOp (ev n f) ⟨d, .call { callee := .builtin .len, args := #[x], argTypes := #[t] }, ty, pos, aft, g⟩).run P w = .ok (.value (.int .i64 s.size)) w := by
  simp [execOp, resolve, invoke, builtin, hx, Builtin.len_, run_underlying ht, goInt, Result.andThen]
theorem ex_len_map {α : Type} {enc : α → Value} {m : List (ByteArray × α)} {kt e : TypeId} {r : Nat} (hm : MapAt enc w r m) (ht : P.underlying t = some (.map kt e)) (hx : ev n f x = .map (some r)) :
    (execOp (ev n f) ⟨d, .call { callee := .builtin .len, args := #[x], argTypes := #[t] }, ty, pos, aft, g⟩).run P w = .ok (.value (.int .i64 m.length)) w := by
  simp [execOp, resolve, invoke, builtin, hx, hm.len (ty := ty) ht, Result.andThen]
theorem ex_max (hx : ev n f x = .int k a) (hy : ev n f y = .int k b) :
    (execOp (ev n f) ⟨d, .call { callee := .builtin .max, args := #[x, y], argTypes := #[t, t'] }, ty, pos, aft, g⟩).run P w = .ok (.value (.int k (if b > a then b else a))) w := by
  simp [execOp, resolve, invoke, builtin, hx, hy, Builtin.max_, Builtin.max2, Result.andThen]
theorem ex_min (hx : ev n f x = .int k a) (hy : ev n f y = .int k b) :
    (execOp (ev n f) ⟨d, .call { callee := .builtin .min, args := #[x, y], argTypes := #[t, t'] }, ty, pos, aft, g⟩).run P w = .ok (.value (.int k (if b < a then b else a))) w := by
  simp [execOp, resolve, invoke, builtin, hx, hy, Builtin.min_, Builtin.min2, Result.andThen]

theorem ex_slice_nil {e : TypeId} {ao : Option Addr} {l c : Nat} (ht : P.underlying t = some (.slice e)) (hx : ev n f x = .slice ao l c) (hy : ev n f y = .slice none 0 0) :
    (execOp (ev n f) ⟨d, .binOp .eql t x y t', ty, pos, aft, g⟩).run P w = .ok (.value (.bool ao.isNone)) w := by
  simp [execOp, hx, hy, eqGuard, Lib.run_eql_slice_nil w t e ao l c 0 0 ht, Result.andThen]

/-! ### calls of the program's own functions -/
theorem ex_call {fid : FuncId} {fn : Func} {xs : Array Operand} {ts : Array TypeId} (hf : P.funcs[fid]? = some fn) (hb : fn.body ≠ none) (hn : fn.name ≠ "runtime.NumGoroutine") :
    (execOp (ev n f) ⟨d, .call { callee := .value (.func fid), args := xs, argTypes := ts }, ty, pos, aft, g⟩).run P w = .ok (.enter fid (xs.map (ev n f))) w := by
  have e : ev n f (.func fid) = .func (.func fid) #[] #[] := rfl
  simp [execOp, resolve, e, Deferred.ofValue, invoke, callFunc, hf, hb, hn, Result.andThen]

/-! ### memory -/
/-- A value of one cell. -/
def one : Value → Bool
  | .agg _ | .tuple _ => false
  | _ => true

def notAgg : TypeDesc → Bool
  | .struct _ => false
  | .array _ _ => false
  | _ => true

theorem run_isAgg_no {u : TypeDesc} (hu : P.underlying t = some u) (hn : notAgg u = true) : (isAgg t).run P w = .ok false w := by
  cases u <;> simp_all [isAgg, run_underlying hu, notAgg, Result.andThen]

variable {ad : Addr}

theorem ex_load {u : TypeDesc} (hu : P.underlying t = some u) (hn : notAgg u = true) (hx : ev n f x = .pointer (some ad)) (hc : w.cell? ad = some v) :
    (execOp (ev n f) ⟨d, .load t x, ty, pos, aft, g⟩).run P w = .ok (.value v) w := by
  simp [execOp, hx, Instr.loadAt, Instr.sureAddr, loadVar, run_isAgg_no hu hn, load, Sem.run, hc, Result.andThen]

theorem cell_of_block {cs : Array Value} {e : TypeId} {fz : Nat × Nat} {b o : Nat} (hb : w.heap[b]? = some (.cells cs e fz)) : w.cell? ⟨b, o, none⟩ = cs[o]? := by
  simp [World.cell?, hb]

theorem free_of_block {cs : Array Value} {e : TypeId} {b o : Nat} (hb : w.heap[b]? = some (.cells cs e (0, 0))) : w.frozen? ⟨b, o, none⟩ = false := by
  simp [World.frozen?, hb]

theorem setCell_block {cs : Array Value} {e : TypeId} {b o : Nat} (hb : w.heap[b]? = some (.cells cs e (0, 0))) : w.setCell ⟨b, o, none⟩ v = setBlock w b (.cells (cs.setIfInBounds o v) e (0, 0)) := by
  have hlt : b < w.heap.size := (Array.getElem?_eq_some_iff.1 hb).1
  have hget : w.heap[b] = .cells cs e (0, 0) := by simpa [Array.getElem?_eq_getElem hlt] using hb
  unfold World.setCell setBlock
  congr 1
  apply Array.ext'
  apply List.ext_getElem?
  intro i
  simp only [Array.getElem?_toList, Array.getElem?_modify, Array.getElem?_setIfInBounds]
  by_cases hi : b = i
  · subst hi
    simp [hlt, hget]
  · simp [hi]

theorem ex_store {cs : Array Value} {e : TypeId} {b o : Nat} (hsz : (P.info? t).map (·.size) = some 1) (hx : ev n f x = .pointer (some ⟨b, o, none⟩)) (hy : ev n f y = v) (hone : one v = true)
    (hb : w.heap[b]? = some (.cells cs e (0, 0))) (ho : o < cs.size) :
    (execOp (ev n f) ⟨d, .store t x y, ty, pos, aft, g⟩).run P w = .ok .skip (setBlock w b (.cells (cs.setIfInBounds o v) e (0, 0))) := by
  obtain ⟨i, hi, hi1⟩ : ∃ i, P.info? t = some i ∧ i.size = 1 := by
    cases h : P.info? t with
    | none => simp [h] at hsz
    | some i => exact ⟨i, rfl, by simpa [h] using hsz⟩
  have hcell : w.cell? ⟨b, o, none⟩ = some cs[o] := by rw [cell_of_block hb]; simp [ho]
  have hfr := free_of_block (o := o) hb
  rw [← setCell_block hb]
  have hcs : v.cells = #[v] := by cases v <;> simp_all [Value.cells, one]
  have hst : (store ⟨b, o, none⟩ v).run P w = .ok () (w.setCell ⟨b, o, none⟩ v) := by
    cases v <;> simp_all [store, Sem.run, one]
  simp [execOp, hx, hy, Instr.storeAt, Instr.sureAddr, storeVar, sizeOf, typeInfo, hi, hi1, hcs, storeCells, Addr.add, hst, Result.andThen]

theorem heap_setBlock {b : Nat} (hlt : b < w.heap.size) (o : Obj) (i : Nat) : (setBlock w b o).heap[i]? = if i = b then some o else w.heap[i]? := by
  by_cases h : i = b
  · subst h; simp [setBlock, hlt]
  · simp [setBlock, h, Ne.symm h]

theorem size_setBlock (w : World) (b : Nat) (o : Obj) : (setBlock w b o).heap.size = w.heap.size := by simp [setBlock]

theorem ex_fieldAddr {fs : Array Field} {fl : Field} {b o i : Nat} (hs : P.underlying t = some (.struct fs)) (hf : fs[i]? = some fl) (hx : ev n f x = .pointer (some ⟨b, o, none⟩)) (hpl : (fieldPlace ⟨b, o, none⟩ fl).run P w = .ok ad w) :
    (execOp (ev n f) ⟨d, .fieldAddr t x i, ty, pos, aft, g⟩).run P w = .ok (.value (.pointer (some ad))) w := by
  simp [execOp, hx, Instr.fieldAt, Instr.sureAddr, run_underlying hs, hf, hpl, Result.andThen]
end
end Go.Proofs.Qxb6600002a
