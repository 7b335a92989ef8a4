/-
  What one operation of the program gives, over a frame 'ev n f': addresses, new memory, maps, slices.
-/
import Derived.Test.Qxb6600002aOps
namespace Go.Proofs.Qxb6600002a
set_option linter.unusedSimpArgs false
set_option linter.unusedVariables false
open Go.MapKept Go.ChangeMaps Go.RowKit

section
variable {P : Program} {n : Nat} {f : Nat → Value} {w : World} {ty : TypeId} {pos : String} {aft : Array Edge} {d : Option Tmp} {g : Option (Nat × Bool)} {x y z : Operand} {v : Value}
variable {k : IntKind} {a b : Int} {t t' e : TypeId} {ad : Addr}

theorem add_eq (b o n : Nat) : Addr.add ⟨b, o, none⟩ n = ⟨b, o + n, none⟩ := by
  unfold Addr.add
  split
  · rename_i h; subst h; rfl
  · rfl

theorem run_sizeOf {s : Nat} (h : (P.info? t).map (·.size) = some s) : (sizeOf t).run P w = .ok s w := by
  cases hi : P.info? t with
  | none => simp [hi] at h
  | some i =>
    have : i.size = s := by simpa [hi] using h
    simp [sizeOf, typeInfo, hi, this]

/-- 'xs[i]''s address, an element of one cell. -/
theorem ex_index {l c : Nat} {j : Nat} (ht : P.underlying t = some (.slice e)) (hs : (P.info? e).map (·.size) = some 1) (hx : ev n f x = .slice (some ad) l c) (hy : ev n f y = .int k a) (hj : a = (j : Int)) (hl : j < l) :
    (execOp (ev n f) ⟨d, .indexAddr t x y, ty, pos, aft, g⟩).run P w = .ok (.value (.pointer (some (ad.add j)))) w := by
  subst hj
  have h1 : (j : Int) < (l : Int) := by omega
  have h0 : (0 : Int) ≤ (j : Int) := by omega
  simp [execOp, hx, hy, Instr.indexAt, asIntOf, run_underlying ht, hl, run_sizeOf hs, Result.andThen]

theorem ex_index0 {l c bl : Nat} {j : Nat} (ht : P.underlying t = some (.slice e)) (hs : (P.info? e).map (·.size) = some 1) (hx : ev n f x = .slice (some ⟨bl, 0, none⟩) l c) (hy : ev n f y = .int k a) (hj : a = (j : Int)) (hl : j < l) :
    (execOp (ev n f) ⟨d, .indexAddr t x y, ty, pos, aft, g⟩).run P w = .ok (.value (.pointer (some ⟨bl, j, none⟩))) w := by
  rw [ex_index ht hs hx hy hj hl, add_eq, Nat.zero_add]

/-- An array variable's element, of one cell. -/
theorem ex_index_arr {l bl : Nat} {j : Nat} (ht : P.underlying t = some (.array l e)) (hs : (P.info? e).map (·.size) = some 1) (hx : ev n f x = .pointer (some ⟨bl, 0, none⟩)) (hy : ev n f y = .int k a) (hj : a = (j : Int)) (hl : j < l) :
    (execOp (ev n f) ⟨d, .indexAddr t x y, ty, pos, aft, g⟩).run P w = .ok (.value (.pointer (some ⟨bl, j, none⟩))) w := by
  subst hj
  have h1 : (j : Int) < (l : Int) := by omega
  have h0 : (0 : Int) ≤ (j : Int) := by omega
  simp [execOp, hx, hy, Instr.indexAt, Instr.sureAddr, asIntOf, run_underlying ht, hl, run_sizeOf hs, add_eq, Result.andThen]

theorem ex_alloc (hz : (zeroValue t).run P w = .ok v w) : (execOp (ev n f) ⟨d, .alloc t, ty, pos, aft, g⟩).run P w = .ok (.value (.pointer (some ⟨w.heap.size, 0, none⟩))) (w.alloc (.cells v.cells t)) := by
  simp [execOp, Instr.alloc, hz, newVar, newRow, Result.andThen]

theorem ex_box (hx : ev n f x = v) : (execOp (ev n f) ⟨d, .box t x, ty, pos, aft, g⟩).run P w = .ok (.value (.pointer (some ⟨w.heap.size, 0, none⟩))) (w.alloc (.cells v.cells t)) := by
  simp [execOp, Instr.box, hx, newVar, newRow, Result.andThen]

theorem ex_makeMap0 : (execOp (ev n f) ⟨d, .makeMap t none, ty, pos, aft, g⟩).run P w = .ok (.value (.map (some w.heap.size))) (w.alloc (.map #[] 0)) := by
  simp [execOp, Instr.makeMap, Result.andThen]

theorem ex_makeMap {kt : TypeId} (ht : P.underlying t = some (.map kt e)) (hx : ev n f x = .int k a) : (execOp (ev n f) ⟨d, .makeMap t (some x), ty, pos, aft, g⟩).run P w = .ok (.value (.map (some w.heap.size))) (w.alloc (.map #[] 0)) := by
  simp [execOp, Instr.makeMap, hx, run_underlying ht, asInt, asIntOf, Result.andThen]

theorem ex_makeSlice {i : TypeInfo} {k' : IntKind} {zv : Value} {l c : Nat} (ht : P.underlying t = some (.slice e)) (hi : P.info? e = some i) (hz : i.zero = some zv) (hsz : i.size = 1) (hx : ev n f x = .int k a) (hy : ev n f y = .int k' b) (ha : a = (l : Int)) (hb : b = (c : Int)) (hlc : l ≤ c)
    (hbytes : i.bytes * c ≤ 281474976710656) (h63 : c ≤ 9223372036854775807) :
    (execOp (ev n f) ⟨d, .makeSlice t x y, ty, pos, aft, g⟩).run P w = .ok (.value (.slice (some ⟨w.heap.size, 0, none⟩) l c)) (w.alloc (.cells (madeCells zv.cells c) e)) := by
  subst ha hb
  have := run_make (P := P) w t e i zv ht hi hz k k' (l : Int) (c : Int) (by omega) (by omega) (by have : ((i.bytes * c : Nat) : Int) ≤ (281474976710656 : Nat) := Int.ofNat_le.2 hbytes; rwa [Int.natCast_mul] at this) (by omega)
  simp [hsz] at this
  simp [execOp, hx, hy, this, Result.andThen]

theorem ex_field {fs : Array Field} {fl : Field} {u : TypeDesc} {cs : Array Value} {i : Nat} (hs : P.underlying t = some (.struct fs)) (hf : fs[i]? = some fl) (hu : P.underlying fl.type = some u) (hn : notAgg u = true) (hx : ev n f x = .agg cs) (hc : cs[fl.offset]? = some v) :
    (execOp (ev n f) ⟨d, .field t x i, ty, pos, aft, g⟩).run P w = .ok (.value v) w := by
  simp [execOp, hx, Instr.field, run_underlying hs, hf, asAgg, part, run_isAgg_no hu hn, hc, Result.andThen]

/-! ### maps -/
variable {α : Type} {enc : α → Value} {m left : List (ByteArray × α)} {kt bm r : Nat} {s : ByteArray}

theorem ex_lookup {zz : α} (hm : MapAt enc w bm m) (ht : P.underlying t = some (.map kt e)) (hk : P.underlying kt = some .string) (hz : (zeroValue e).run P w = .ok (enc zz) w) (hx : ev n f x = .map (some bm)) (hy : ev n f y = .string s) :
    (execOp (ev n f) ⟨d, .lookup t x y false, ty, pos, aft, g⟩).run P w = .ok (.value (enc ((mget m s).getD zz))) w := by
  simp [execOp, hx, hy, hm.lookup ht hk hz s false, Result.andThen]

theorem ex_lookup_ok {zz : α} (hm : MapAt enc w bm m) (ht : P.underlying t = some (.map kt e)) (hk : P.underlying kt = some .string) (hz : (zeroValue e).run P w = .ok (enc zz) w) (hx : ev n f x = .map (some bm)) (hy : ev n f y = .string s) :
    (execOp (ev n f) ⟨d, .lookup t x y true, ty, pos, aft, g⟩).run P w = .ok (.value (.tuple #[enc ((mget m s).getD zz), .bool (mget m s).isSome])) w := by
  simp [execOp, hx, hy, hm.lookup ht hk hz s true, Result.andThen]

theorem ex_mapUpdate {val : α} (hm : MapAt enc w bm m) (ht : P.underlying t = some (.map kt e)) (hk : P.underlying kt = some .string) (hx : ev n f x = .map (some bm)) (hy : ev n f y = .string s) (hz : ev n f z = enc val) :
    ∃ w', (execOp (ev n f) ⟨d, .mapUpdate t x y z, ty, pos, aft, g⟩).run P w = .ok .skip w' ∧ MapAt enc w' bm (mput m s val) ∧ w.grownBy w' (some bm) ∧ w'.heap.size = w.heap.size := by
  obtain ⟨w', hrun, h1, h2, h3⟩ := hm.update ht hk s val
  exact ⟨w', by simp [execOp, hx, hy, hz, hrun, Result.andThen], h1, h2, h3⟩

theorem ex_delete (hm : MapAt enc w bm m) (ht : P.underlying t = some (.map kt e)) (hk : P.underlying kt = some .string) (hx : ev n f x = .map (some bm)) (hy : ev n f y = .string s) :
    ∃ w', (execOp (ev n f) ⟨d, .call { callee := .builtin .delete, args := #[x, y], argTypes := #[t, kt] }, ty, pos, aft, g⟩).run P w = .ok (.value (.tuple #[])) w' ∧ MapAt enc w' bm (mdel m s) ∧ w.grownBy w' (some bm) ∧ w'.heap.size = w.heap.size := by
  obtain ⟨w', hrun, h1, h2, h3⟩ := hm.drop (ty := ty) ht hk s
  exact ⟨w', by simp [execOp, resolve, invoke, builtin, hx, hy, hrun, Result.andThen], h1, h2, h3⟩

theorem ex_range (hm : MapAt enc w bm m) (ht : P.underlying t = some (.map kt e)) (hx : ev n f x = .map (some bm)) :
    ∃ o, (execOp (ev n f) ⟨d, .range t x, ty, pos, aft, g⟩).run P w = .ok (.value (.pointer (some ⟨w.heap.size, 0, none⟩))) (w.alloc o) ∧ RangeAt enc (w.alloc o) bm w.heap.size m m := by
  obtain ⟨o, hrun, h1⟩ := hm.range (P := P) ht
  exact ⟨o, by simp [execOp, hx, hrun, Result.andThen], h1⟩

theorem ex_next (hr : RangeAt enc w bm r m left) (hx : ev n f x = .pointer (some ⟨r, 0, none⟩)) :
    (left = [] ∧ (execOp (ev n f) ⟨d, .next x false, ty, pos, aft, g⟩).run P w = .ok (.value (.tuple #[.bool false])) w) ∨
    ∃ s val w', (s, val) ∈ left ∧ (execOp (ev n f) ⟨d, .next x false, ty, pos, aft, g⟩).run P w = .ok (.value (.tuple #[.bool true, .string s, enc val])) w' ∧
      RangeAt enc w' bm r m (left.filter fun q => !decide (q.1 = s)) ∧ w.grownBy w' (some r) ∧ w'.heap.size = w.heap.size ∧
      (Instr.entry (.pointer (some ⟨r, 0, none⟩))).run P w' = .ok (.tuple #[.string s, enc val]) w' := by
  rcases hr.next (P := P) ty with ⟨h0, hrun⟩ | ⟨s, val, w', hmem, hrun, h1, h2, h3, h4⟩
  · exact Or.inl ⟨h0, by simp [execOp, hx, hrun, Result.andThen]⟩
  · exact Or.inr ⟨s, val, w', hmem, by simp [execOp, hx, hrun, Result.andThen], h1, h2, h3, h4⟩

theorem ex_entry {u : Value} (hx : ev n f x = .pointer (some ⟨r, 0, none⟩)) (he : (Instr.entry (.pointer (some ⟨r, 0, none⟩))).run P w = .ok u w) :
    (execOp (ev n f) ⟨d, .entry x, ty, pos, aft, g⟩).run P w = .ok (.value u) w := by
  simp [execOp, hx, he, Result.andThen]

/-! ### slices -/
theorem ex_cut {ao : Option Addr} {l c h : Nat} (ht : P.underlying t = some (.slice e)) (hs : (P.info? e).map (·.size) = some 1) (hx : ev n f x = .slice ao l c) (hy : ev n f y = .int k a) (ha : a = (h : Int)) (hh : h ≤ c) :
    (execOp (ev n f) ⟨d, .slice t x none (some y) none, ty, pos, aft, g⟩).run P w = .ok (.value (.slice ao h c)) w := by
  subst ha
  have h1 : (h : Int) ≤ (c : Int) := by omega
  have h0 : (0 : Int) ≤ (h : Int) := by omega
  have hm : ∀ q : Option Addr, (q.map fun x => x.add 0) = q := fun q => by cases q <;> simp [Addr.add]
  simp [execOp, hx, hy, Instr.sliceAt, Instr.slice, Instr.sliceBounds, Instr.sliceBound, run_underlying ht, asIntOf, hh, run_sizeOf hs, hm, Result.andThen]

/-- 'append(xs, v)' where there is room. -/
theorem ex_append_room {bl hb : Nat} {l c : Nat} {cs : Array Value} {e' : TypeId} {fz : Nat × Nat} (ht : P.underlying t = some (.slice e)) (hs : (P.info? e).map (·.size) = some 1) (hx : ev n f x = .slice (some ⟨bl, 0, none⟩) l c) (hy : ev n f y = .slice (some ⟨hb, 0, none⟩) 1 1)
    (hblk : w.heap[bl]? = some (.cells cs e (0, 0))) (hnew : w.heap[hb]? = some (.cells #[v] e' fz)) (hone : one v = true) (hl : l < cs.size) (hc : l + 1 ≤ c) :
    (execOp (ev n f) ⟨d, .call { callee := .builtin .append, args := #[x, y], argTypes := #[t, t] }, ty, pos, aft, g⟩).run P w = .ok (.value (.slice (some ⟨bl, 0, none⟩) (l + 1) c)) (setBlock w bl (.cells (cs.setIfInBounds l v) e (0, 0))) := by
  have hcell : w.cell? ⟨hb, 0, none⟩ = some v := by rw [cell_of_block hnew]; simp
  have hcell2 : w.cell? ⟨bl, l, none⟩ = some cs[l] := by rw [cell_of_block hblk]; simp [hl]
  have hfr := free_of_block (o := l) hblk
  rw [← setCell_block hblk]
  have hst : (store ⟨bl, l, none⟩ v).run P w = .ok () (w.setCell ⟨bl, l, none⟩ v) := by
    cases v <;> simp_all [store, Sem.run, one]
  have hld : (loadCells ⟨hb, 0, none⟩ 1).run P w = .ok #[v] w := by
    simp [loadCells, loadCellsFrom, load, Sem.run, Addr.add, hcell, Result.andThen]
  simp [execOp, resolve, invoke, builtin, hx, hy, Builtin.append_, run_underlying ht, run_sizeOf hs, Builtin.lenOf, hc, Builtin.firstCells, hld, storeCells, add_eq, hst, Result.andThen]
end

/-! ### shapes: so that what is moved is written out -/
section
variable {P : Program} {n : Nat} {f : Nat → Value} {w : World} {ty : TypeId} {pos : String} {aft : Array Edge} {d : Option Tmp} {g : Option (Nat × Bool)} {x : Operand}
theorem ex_move_int {k : IntKind} {a : Int} (h : ev n f x = .int k a) : (execOp (ev n f) ⟨d, .move x, ty, pos, aft, g⟩).run P w = .ok (.value (.int k a)) w := ex_move h
theorem ex_move_bool {b : Bool} (h : ev n f x = .bool b) : (execOp (ev n f) ⟨d, .move x, ty, pos, aft, g⟩).run P w = .ok (.value (.bool b)) w := ex_move h
theorem ex_move_str {s : ByteArray} (h : ev n f x = .string s) : (execOp (ev n f) ⟨d, .move x, ty, pos, aft, g⟩).run P w = .ok (.value (.string s)) w := ex_move h
theorem ex_move_slice {ao : Option Addr} {l c : Nat} (h : ev n f x = .slice ao l c) : (execOp (ev n f) ⟨d, .move x, ty, pos, aft, g⟩).run P w = .ok (.value (.slice ao l c)) w := ex_move h
theorem ex_move_map {r : Option Nat} (h : ev n f x = .map r) : (execOp (ev n f) ⟨d, .move x, ty, pos, aft, g⟩).run P w = .ok (.value (.map r)) w := ex_move h
theorem ex_move_ptr {a : Option Addr} (h : ev n f x = .pointer a) : (execOp (ev n f) ⟨d, .move x, ty, pos, aft, g⟩).run P w = .ok (.value (.pointer a)) w := ex_move h
theorem ex_move_tup {vs : Array Value} (h : ev n f x = .tuple vs) : (execOp (ev n f) ⟨d, .move x, ty, pos, aft, g⟩).run P w = .ok (.value (.tuple vs)) w := ex_move h
theorem ex_move_agg {vs : Array Value} (h : ev n f x = .agg vs) : (execOp (ev n f) ⟨d, .move x, ty, pos, aft, g⟩).run P w = .ok (.value (.agg vs)) w := ex_move h
theorem ex_assign_int {k : IntKind} {a : Int} (h : ev n f x = .int k a) : (execOp (ev n f) ⟨d, .assign x, ty, pos, aft, g⟩).run P w = .ok (.value (.int k a)) w := ex_assign h
theorem ex_assign_bool {b : Bool} (h : ev n f x = .bool b) : (execOp (ev n f) ⟨d, .assign x, ty, pos, aft, g⟩).run P w = .ok (.value (.bool b)) w := ex_assign h
theorem ex_assign_str {s : ByteArray} (h : ev n f x = .string s) : (execOp (ev n f) ⟨d, .assign x, ty, pos, aft, g⟩).run P w = .ok (.value (.string s)) w := ex_assign h
theorem ex_assign_slice {ao : Option Addr} {l c : Nat} (h : ev n f x = .slice ao l c) : (execOp (ev n f) ⟨d, .assign x, ty, pos, aft, g⟩).run P w = .ok (.value (.slice ao l c)) w := ex_assign h
theorem ex_assign_map {r : Option Nat} (h : ev n f x = .map r) : (execOp (ev n f) ⟨d, .assign x, ty, pos, aft, g⟩).run P w = .ok (.value (.map r)) w := ex_assign h
theorem ex_assign_ptr {a : Option Addr} (h : ev n f x = .pointer a) : (execOp (ev n f) ⟨d, .assign x, ty, pos, aft, g⟩).run P w = .ok (.value (.pointer a)) w := ex_assign h
theorem ex_assign_tup {vs : Array Value} (h : ev n f x = .tuple vs) : (execOp (ev n f) ⟨d, .assign x, ty, pos, aft, g⟩).run P w = .ok (.value (.tuple vs)) w := ex_assign h
theorem ex_assign_agg {vs : Array Value} (h : ev n f x = .agg vs) : (execOp (ev n f) ⟨d, .assign x, ty, pos, aft, g⟩).run P w = .ok (.value (.agg vs)) w := ex_assign h
end

/-! ### the ends of codes -/
section
variable {P : Program} {next : Act → World → Prop} {Q : Exit → Act → World → Prop} {a : Act} {w : World} {i id : Nat} {l : List Oper} {y c : Code}
theorem xt_n (h : next a w) : Exit.then next Q .normal a w := h
theorem xt_ret (h : Q .ret a w) : Exit.then next Q .ret a w := h
theorem xt_exit (h : Q (.exit i) a w) : Exit.then next Q (.exit i) a w := h
theorem xb_n (h : Q .normal a w) : Exit.inBlock id Q .normal a w := h
theorem xb_ret (h : Q .ret a w) : Exit.inBlock id Q .ret a w := h
theorem xb_same (h : Q .normal a w) : Exit.inBlock id Q (.exit id) a w := by simp only [Exit.inBlock, if_true]; exact h
theorem xb_other (hi : Nat.beq i id = false) (h : Q (.exit i) a w) : Exit.inBlock id Q (.exit i) a w := by
  have : i ≠ id := fun e => by subst e; simp at hi
  simp only [Exit.inBlock, if_neg this]; exact h
/-- A region, then the rest. -/
theorem sq_region (h : wpList P l.toArray (Exit.then (y.wp P Q) Q) l a w) : (Code.seq (.region id l.toArray false) y).wp P Q a w := wp_seq (wp_region_lit h)
theorem sq_nil {ops : Array Oper} (h : next a w) : wpList P ops (Exit.then next Q) [] a w := h
end
end Go.Proofs.Qxb6600002a
