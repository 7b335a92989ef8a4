/-
  Worlds: what is kept; a struct of three cells laid and stored; ZZHolds.
-/
import Derived.Test.Qxb6600002aSmall
namespace Go.Proofs.Qxb6600002a
set_option linter.unusedSimpArgs false
set_option linter.unusedVariables false
open Go.MapKept Go.ChangeMaps Go.RowKit

/-- BELOW BLOCK NUMBER B, BUT FOR THE BLOCKS X, w' IS AS w WAS. -/
structure Kp (B : Nat) (X : List Nat) (w w' : World) : Prop where
  os : w'.os = w.os
  tape : w'.tape = w.tape
  output : w'.output = w.output
  size : w.heap.size ≤ w'.heap.size
  block : ∀ k, k < B → k ∉ X → w'.heap[k]? = w.heap[k]?

theorem Kp.refl (B : Nat) (X : List Nat) (w : World) : Kp B X w w := ⟨rfl, rfl, rfl, Nat.le_refl _, fun _ _ _ => rfl⟩
theorem Kp.trans {B : Nat} {X : List Nat} {a b c : World} (h : Kp B X a b) (k : Kp B X b c) : Kp B X a c :=
  ⟨k.os.trans h.os, k.tape.trans h.tape, k.output.trans h.output, Nat.le_trans h.size k.size, fun i hi hx => (k.block i hi hx).trans (h.block i hi hx)⟩
theorem Kp.mono {B B' : Nat} {X X' : List Nat} {a b : World} (h : Kp B X a b) (hB : B' ≤ B) (hX : ∀ k, k < B' → k ∈ X → k ∈ X') : Kp B' X' a b :=
  ⟨h.os, h.tape, h.output, h.size, fun i hi hx => h.block i (Nat.lt_of_lt_of_le hi hB) (fun h1 => hx (hX i hi h1))⟩
theorem Kp.alloc {B : Nat} {X : List Nat} {a b : World} (h : Kp B X a b) (hB : B ≤ b.heap.size) (o : Obj) : Kp B X a (b.alloc o) :=
  h.trans ⟨rfl, rfl, rfl, by simp, fun i hi _ => (heap_alloc b o).2 i (by omega)⟩
theorem Kp.drew {B : Nat} {X : List Nat} {a b : World} (h : Kp B X a b) : Kp B X a b.drew := h.trans ⟨rfl, rfl, rfl, Nat.le_refl _, fun _ _ _ => rfl⟩
theorem Kp.setBlock {B : Nat} {X : List Nat} {a b : World} (h : Kp B X a b) {i : Nat} (hi : B ≤ i ∨ i ∈ X) (o : Obj) : Kp B X a (setBlock b i o) :=
  h.trans ⟨rfl, rfl, rfl, by simp [ChangeMaps.setBlock], fun k hk hx => by
    have : k ≠ i := by
      rintro rfl
      rcases hi with h1 | h1
      · omega
      · exact hx h1
    simp [ChangeMaps.setBlock, Ne.symm this]⟩
theorem Kp.grown {B : Nat} {X : List Nat} {a b c : World} (h : Kp B X a b) {i : Nat} (hg : b.grownBy c (some i)) (hB : B ≤ b.heap.size) (hi : B ≤ i ∨ i ∈ X) : Kp B X a c :=
  h.trans ⟨hg.os, hg.tape, hg.output, hg.size, fun k hk hx => hg.block k (by omega) (fun e => by
    have : k = i := by simpa using e
    subst this
    rcases hi with h1 | h1
    · omega
    · exact hx h1)⟩
theorem Kp.below {B : Nat} {w w' : World} (h : Kp B [] w w') : Below B w w' := ⟨h.os, h.tape, h.output, h.size, fun k hk => h.block k hk (by simp)⟩

theorem App.keep {w w' : World} {A M : Nat} {m : List (ByteArray × Tl)} (h : App w A M m) (hA : w'.heap[A]? = w.heap[A]?) (hM : w'.heap[M]? = w.heap[M]?) : App w' A M m :=
  ⟨(World.cell?_of_block (a := ⟨A, 0, none⟩) hA).trans h.1, h.2.of_block hM⟩
theorem App.with_map {w w' : World} {A M : Nat} {m m' : List (ByteArray × Tl)} (h : App w A M m) (hA : w'.heap[A]? = w.heap[A]?) (hM : MapAt encT w' M m') : App w' A M m' :=
  ⟨(World.cell?_of_block (a := ⟨A, 0, none⟩) hA).trans h.1, hM⟩
theorem App.ltA {w : World} {A M : Nat} {m : List (ByteArray × Tl)} (h : App w A M m) : A < w.heap.size := World.block_lt_of_cell? w ⟨A, 0, none⟩ h.1
theorem App.ne {w : World} {A M : Nat} {m : List (ByteArray × Tl)} (h : App w A M m) : A ≠ M := by
  rintro rfl
  obtain ⟨es, clock, hb, _⟩ := h.2
  have := h.1
  simp [World.cell?, hb] at this

theorem setBlock_alloc (w : World) (o o' : Obj) : setBlock (w.alloc o) w.heap.size o' = w.alloc o' := by
  have e : ∀ x, w.alloc x = { w with heap := w.heap.push x } := fun x => rfl
  simp only [setBlock, e]
  congr 1
  apply Array.ext'
  simp

section
variable {n : Nat} {f : Nat → Value} {w : World} {ty : TypeId} {pos : String} {aft : Array Edge} {d : Option Tmp} {g : Option (Nat × Bool)} {x y : Operand} {b : Nat} {c0 c1 c2 : Value} {e : TypeId} {fz : Nat × Nat}

theorem run_load65 (hb : w.heap[b]? = some (.cells #[c0, c1, c2] e fz)) : (Instr.loadAt 65 (.pointer (some ⟨b, 0, none⟩))).run Try.prog w = .ok (.agg #[c0, c1, c2]) w := by
  have ha : ∀ w, (isAgg 65).run Try.prog w = .ok true w := fun w => by kernel_rfl
  have hs : ∀ w, (sizeOf 65).run Try.prog w = .ok 3 w := fun w => by kernel_rfl
  have h0 : w.cell? ⟨b, 0, none⟩ = some c0 := by rw [cell_of_block hb]; rfl
  have h1 : w.cell? ⟨b, 1, none⟩ = some c1 := by rw [cell_of_block hb]; rfl
  have h2 : w.cell? ⟨b, 2, none⟩ = some c2 := by rw [cell_of_block hb]; rfl
  simp [Instr.loadAt, Instr.sureAddr, loadVar, ha, hs, loadCells, loadCellsFrom, add_eq, load, Sem.run, h0, h1, h2, Result.andThen]

theorem ex_load65 (hx : ev n f x = .pointer (some ⟨b, 0, none⟩)) (hb : w.heap[b]? = some (.cells #[c0, c1, c2] e fz)) :
    (execOp (ev n f) ⟨d, .load 65 x, ty, pos, aft, g⟩).run Try.prog w = .ok (.value (.agg #[c0, c1, c2])) w := by
  simp [execOp, hx, run_load65 hb, Result.andThen]

theorem run_store65 {v0 v1 v2 : Value} (hb : w.heap[b]? = some (.cells #[c0, c1, c2] e (0, 0))) (h0 : one v0 = true) (h1 : one v1 = true) (h2 : one v2 = true) :
    (Instr.storeAt 65 (.pointer (some ⟨b, 0, none⟩)) (.agg #[v0, v1, v2])).run Try.prog w = .ok () (setBlock w b (.cells #[v0, v1, v2] e (0, 0))) := by
  have hs : ∀ w, (sizeOf 65).run Try.prog w = .ok 3 w := fun w => by kernel_rfl
  have st : ∀ (w : World) (i : Nat) (v : Value) (cs : Array Value), w.heap[b]? = some (.cells cs e (0, 0)) → i < cs.size → one v = true → (store ⟨b, i, none⟩ v).run Try.prog w = .ok () (setBlock w b (.cells (cs.setIfInBounds i v) e (0, 0))) := by
    intro w i v cs hb hi hv
    have hcell : w.cell? ⟨b, i, none⟩ = some cs[i] := by rw [cell_of_block hb]; simp [hi]
    have hfr := free_of_block (o := i) hb
    rw [← setCell_block hb]
    cases v <;> simp_all [store, Sem.run, one]
  have hlt : b < w.heap.size := (Array.getElem?_eq_some_iff.1 hb).1
  have s0 : (store ⟨b, 0, none⟩ v0).run Try.prog w = .ok () (setBlock w b (.cells #[v0, c1, c2] e (0, 0))) := st w 0 v0 _ hb (by simp) h0
  have b1 : (setBlock w b (.cells #[v0, c1, c2] e (0, 0))).heap[b]? = some (.cells #[v0, c1, c2] e (0, 0)) := by rw [heap_setBlock hlt]; simp
  have s1 : (store ⟨b, 1, none⟩ v1).run Try.prog (setBlock w b (.cells #[v0, c1, c2] e (0, 0))) = .ok () (setBlock (setBlock w b (.cells #[v0, c1, c2] e (0, 0))) b (.cells #[v0, v1, c2] e (0, 0))) := st _ 1 v1 _ b1 (by simp) h1
  have b2 : (setBlock (setBlock w b (.cells #[v0, c1, c2] e (0, 0))) b (.cells #[v0, v1, c2] e (0, 0))).heap[b]? = some (.cells #[v0, v1, c2] e (0, 0)) := by
    rw [heap_setBlock (by rw [size_setBlock]; exact hlt)]; simp
  have s2 : (store ⟨b, 2, none⟩ v2).run Try.prog (setBlock (setBlock w b (.cells #[v0, c1, c2] e (0, 0))) b (.cells #[v0, v1, c2] e (0, 0))) = .ok () (setBlock (setBlock (setBlock w b (.cells #[v0, c1, c2] e (0, 0))) b (.cells #[v0, v1, c2] e (0, 0))) b (.cells #[v0, v1, v2] e (0, 0))) := st _ 2 v2 _ b2 (by simp) h2
  have fin : setBlock (setBlock (setBlock w b (.cells #[v0, c1, c2] e (0, 0))) b (.cells #[v0, v1, c2] e (0, 0))) b (.cells #[v0, v1, v2] e (0, 0)) = setBlock w b (.cells #[v0, v1, v2] e (0, 0)) := by
    simp only [setBlock]
    congr 1
    simp
  rw [← fin]
  simp [Instr.storeAt, Instr.sureAddr, storeVar, hs, Value.cells, storeCells, add_eq, s0, s1, s2, Result.andThen]

theorem ex_store65 {v0 v1 v2 : Value} (hx : ev n f x = .pointer (some ⟨b, 0, none⟩)) (hy : ev n f y = .agg #[v0, v1, v2]) (hb : w.heap[b]? = some (.cells #[c0, c1, c2] e (0, 0))) (h0 : one v0 = true) (h1 : one v1 = true) (h2 : one v2 = true) :
    (execOp (ev n f) ⟨d, .store 65 x y, ty, pos, aft, g⟩).run Try.prog w = .ok .skip (setBlock w b (.cells #[v0, v1, v2] e (0, 0))) := by
  simp [execOp, hx, hy, run_store65 hb h0 h1 h2, Result.andThen]

/-- 't := v': a struct variable is laid, and v stored into it. -/
theorem wl_lay65 {ops : Array Oper} {Q : Exit → Act → World → Prop} {rest : List Oper} {dd : Nat} {ty' : TypeId} {pos' : String} {aft' : Array Edge} {t : Tl} (hd : Nat.blt dd n = true) (hne : ∀ v, ev n (upd f dd v) y = ev n f y) (hy : ev n f y = encT t)
    (h : wpList Try.prog ops Q rest (Fr n (upd f dd (.pointer (some ⟨w.heap.size, 0, none⟩)))) (w.alloc (.cells #[.int .u64 t.before, .int .u64 t.taken, .int .u64 t.applied] 65))) :
    wpList Try.prog ops Q (⟨some dd, .alloc 65, ty, pos, aft, none⟩ :: ⟨none, .store 65 (.tmp dd) y, ty', pos', aft', none⟩ :: rest) (Fr n f) w := by
  refine wl_val (ex_alloc (zeroT w)) ?_
  have hnew : (w.alloc (.cells (encT zT).cells 65)).heap[w.heap.size]? = some (.cells #[.int .u64 0, .int .u64 0, .int .u64 0] 65 (0, 0)) := (heap_alloc w _).1
  refine wl_unit (ex_store65 (v0 := .int .u64 t.before) (v1 := .int .u64 t.taken) (v2 := .int .u64 t.applied) ?_ ?_ hnew rfl rfl rfl) ?_
  · simp [ev, hd, upd_same]
  · rw [hne, hy]; rfl
  · rw [setBlock_alloc]
    exact h
end

theorem holds_any (A M : Nat) (m : List (ByteArray × Tl)) (s : ByteArray) (w : World) (h : App w A M m) : Calls Try.prog 15 #[.pointer (some ⟨A, 0, none⟩), .string s] w fun e w' => e = .returned (.bool (mget m s).isSome) ∧ ∃ o, w' = w.alloc o := by
  refine enter2 Try.func15 rfl Try.ntmps15 (by decide) fun g => ?_
  refine sq_region ?_
  (repeat (first | ((with_reducible apply w_mv); first | exact (rfl : _ = Value.int _ _) | exact (rfl : _ = Value.bool _) | exact (rfl : _ = Value.slice _ _ _) | exact (rfl : _ = Value.map _) | exact (rfl : _ = Value.pointer _) | exact (rfl : _ = Value.string _) | exact (rfl : _ = Value.tuple _) | exact rfl) | ((with_reducible apply w_as); first | exact (rfl : _ = Value.int _ _) | exact (rfl : _ = Value.bool _) | exact (rfl : _ = Value.slice _ _ _) | exact (rfl : _ = Value.map _) | exact (rfl : _ = Value.pointer _) | exact (rfl : _ = Value.string _) | exact (rfl : _ = Value.tuple _) | exact rfl) | ((with_reducible apply w_ext); exact rfl; exact rfl) | ((with_reducible apply w_not); exact rfl) | ((with_reducible apply w_nc); exact rfl) | ((with_reducible apply w_lss); exact rfl; exact rfl) | ((with_reducible apply w_gtr); exact rfl; exact rfl) | ((with_reducible apply w_geq); exact rfl; exact rfl) | ((with_reducible apply w_eql); exact rfl; exact rfl) | ((with_reducible apply w_neq); exact rfl; exact rfl) | ((with_reducible apply w_seql); exact rfl; exact rfl) | ((with_reducible apply w_sneq); exact rfl; exact rfl) | ((with_reducible apply w_beql (ht := Try.underlying4)); exact rfl; exact rfl) | ((with_reducible apply w_bneq (ht := Try.underlying4)); exact rfl; exact rfl) | ((with_reducible apply w_lens (ht := Try.underlying22)); exact rfl) | ((with_reducible apply w_lens (ht := Try.underlying23)); exact rfl) | ((with_reducible apply w_lens (ht := Try.underlying39)); exact rfl) | ((with_reducible apply w_lens (ht := Try.underlying40)); exact rfl) | ((with_reducible apply w_lens (ht := Try.underlying47)); exact rfl) | ((with_reducible apply w_lens (ht := Try.underlying48)); exact rfl) | ((with_reducible apply w_lenstr (ht := Try.underlying9)); exact rfl)))
  (refine sq_nil ?_)
  refine sq_region ?_
  (repeat (first | ((with_reducible apply w_mv); first | exact (rfl : _ = Value.int _ _) | exact (rfl : _ = Value.bool _) | exact (rfl : _ = Value.slice _ _ _) | exact (rfl : _ = Value.map _) | exact (rfl : _ = Value.pointer _) | exact (rfl : _ = Value.string _) | exact (rfl : _ = Value.tuple _) | exact rfl) | ((with_reducible apply w_as); first | exact (rfl : _ = Value.int _ _) | exact (rfl : _ = Value.bool _) | exact (rfl : _ = Value.slice _ _ _) | exact (rfl : _ = Value.map _) | exact (rfl : _ = Value.pointer _) | exact (rfl : _ = Value.string _) | exact (rfl : _ = Value.tuple _) | exact rfl) | ((with_reducible apply w_ext); exact rfl; exact rfl) | ((with_reducible apply w_not); exact rfl) | ((with_reducible apply w_nc); exact rfl) | ((with_reducible apply w_lss); exact rfl; exact rfl) | ((with_reducible apply w_gtr); exact rfl; exact rfl) | ((with_reducible apply w_geq); exact rfl; exact rfl) | ((with_reducible apply w_eql); exact rfl; exact rfl) | ((with_reducible apply w_neq); exact rfl; exact rfl) | ((with_reducible apply w_seql); exact rfl; exact rfl) | ((with_reducible apply w_sneq); exact rfl; exact rfl) | ((with_reducible apply w_beql (ht := Try.underlying4)); exact rfl; exact rfl) | ((with_reducible apply w_bneq (ht := Try.underlying4)); exact rfl; exact rfl) | ((with_reducible apply w_lens (ht := Try.underlying22)); exact rfl) | ((with_reducible apply w_lens (ht := Try.underlying23)); exact rfl) | ((with_reducible apply w_lens (ht := Try.underlying39)); exact rfl) | ((with_reducible apply w_lens (ht := Try.underlying40)); exact rfl) | ((with_reducible apply w_lens (ht := Try.underlying47)); exact rfl) | ((with_reducible apply w_lens (ht := Try.underlying48)); exact rfl) | ((with_reducible apply w_lenstr (ht := Try.underlying9)); exact rfl)))
  refine wl_val (ex_f63 rfl) ?_
  refine wl_val (ex_load Try.underlying61 rfl rfl h.1) ?_
  (repeat (first | ((with_reducible apply w_mv); first | exact (rfl : _ = Value.int _ _) | exact (rfl : _ = Value.bool _) | exact (rfl : _ = Value.slice _ _ _) | exact (rfl : _ = Value.map _) | exact (rfl : _ = Value.pointer _) | exact (rfl : _ = Value.string _) | exact (rfl : _ = Value.tuple _) | exact rfl) | ((with_reducible apply w_as); first | exact (rfl : _ = Value.int _ _) | exact (rfl : _ = Value.bool _) | exact (rfl : _ = Value.slice _ _ _) | exact (rfl : _ = Value.map _) | exact (rfl : _ = Value.pointer _) | exact (rfl : _ = Value.string _) | exact (rfl : _ = Value.tuple _) | exact rfl) | ((with_reducible apply w_ext); exact rfl; exact rfl) | ((with_reducible apply w_not); exact rfl) | ((with_reducible apply w_nc); exact rfl) | ((with_reducible apply w_lss); exact rfl; exact rfl) | ((with_reducible apply w_gtr); exact rfl; exact rfl) | ((with_reducible apply w_geq); exact rfl; exact rfl) | ((with_reducible apply w_eql); exact rfl; exact rfl) | ((with_reducible apply w_neq); exact rfl; exact rfl) | ((with_reducible apply w_seql); exact rfl; exact rfl) | ((with_reducible apply w_sneq); exact rfl; exact rfl) | ((with_reducible apply w_beql (ht := Try.underlying4)); exact rfl; exact rfl) | ((with_reducible apply w_bneq (ht := Try.underlying4)); exact rfl; exact rfl) | ((with_reducible apply w_lens (ht := Try.underlying22)); exact rfl) | ((with_reducible apply w_lens (ht := Try.underlying23)); exact rfl) | ((with_reducible apply w_lens (ht := Try.underlying39)); exact rfl) | ((with_reducible apply w_lens (ht := Try.underlying40)); exact rfl) | ((with_reducible apply w_lens (ht := Try.underlying47)); exact rfl) | ((with_reducible apply w_lens (ht := Try.underlying48)); exact rfl) | ((with_reducible apply w_lenstr (ht := Try.underlying9)); exact rfl)))
  refine wl_val (ex_lookup_ok h.2 Try.underlying61 Try.underlying9 (zeroT w) rfl rfl) ?_
  (repeat (first | ((with_reducible apply w_mv); first | exact (rfl : _ = Value.int _ _) | exact (rfl : _ = Value.bool _) | exact (rfl : _ = Value.slice _ _ _) | exact (rfl : _ = Value.map _) | exact (rfl : _ = Value.pointer _) | exact (rfl : _ = Value.string _) | exact (rfl : _ = Value.tuple _) | exact rfl) | ((with_reducible apply w_as); first | exact (rfl : _ = Value.int _ _) | exact (rfl : _ = Value.bool _) | exact (rfl : _ = Value.slice _ _ _) | exact (rfl : _ = Value.map _) | exact (rfl : _ = Value.pointer _) | exact (rfl : _ = Value.string _) | exact (rfl : _ = Value.tuple _) | exact rfl) | ((with_reducible apply w_ext); exact rfl; exact rfl) | ((with_reducible apply w_not); exact rfl) | ((with_reducible apply w_nc); exact rfl) | ((with_reducible apply w_lss); exact rfl; exact rfl) | ((with_reducible apply w_gtr); exact rfl; exact rfl) | ((with_reducible apply w_geq); exact rfl; exact rfl) | ((with_reducible apply w_eql); exact rfl; exact rfl) | ((with_reducible apply w_neq); exact rfl; exact rfl) | ((with_reducible apply w_seql); exact rfl; exact rfl) | ((with_reducible apply w_sneq); exact rfl; exact rfl) | ((with_reducible apply w_beql (ht := Try.underlying4)); exact rfl; exact rfl) | ((with_reducible apply w_bneq (ht := Try.underlying4)); exact rfl; exact rfl) | ((with_reducible apply w_lens (ht := Try.underlying22)); exact rfl) | ((with_reducible apply w_lens (ht := Try.underlying23)); exact rfl) | ((with_reducible apply w_lens (ht := Try.underlying39)); exact rfl) | ((with_reducible apply w_lens (ht := Try.underlying40)); exact rfl) | ((with_reducible apply w_lens (ht := Try.underlying47)); exact rfl) | ((with_reducible apply w_lens (ht := Try.underlying48)); exact rfl) | ((with_reducible apply w_lenstr (ht := Try.underlying9)); exact rfl)))
  refine wl_lay65 (t := (mget m s).getD zT) rfl (fun v => rfl) rfl ?_
  (repeat (first | ((with_reducible apply w_mv); first | exact (rfl : _ = Value.int _ _) | exact (rfl : _ = Value.bool _) | exact (rfl : _ = Value.slice _ _ _) | exact (rfl : _ = Value.map _) | exact (rfl : _ = Value.pointer _) | exact (rfl : _ = Value.string _) | exact (rfl : _ = Value.tuple _) | exact rfl) | ((with_reducible apply w_as); first | exact (rfl : _ = Value.int _ _) | exact (rfl : _ = Value.bool _) | exact (rfl : _ = Value.slice _ _ _) | exact (rfl : _ = Value.map _) | exact (rfl : _ = Value.pointer _) | exact (rfl : _ = Value.string _) | exact (rfl : _ = Value.tuple _) | exact rfl) | ((with_reducible apply w_ext); exact rfl; exact rfl) | ((with_reducible apply w_not); exact rfl) | ((with_reducible apply w_nc); exact rfl) | ((with_reducible apply w_lss); exact rfl; exact rfl) | ((with_reducible apply w_gtr); exact rfl; exact rfl) | ((with_reducible apply w_geq); exact rfl; exact rfl) | ((with_reducible apply w_eql); exact rfl; exact rfl) | ((with_reducible apply w_neq); exact rfl; exact rfl) | ((with_reducible apply w_seql); exact rfl; exact rfl) | ((with_reducible apply w_sneq); exact rfl; exact rfl) | ((with_reducible apply w_beql (ht := Try.underlying4)); exact rfl; exact rfl) | ((with_reducible apply w_bneq (ht := Try.underlying4)); exact rfl; exact rfl) | ((with_reducible apply w_lens (ht := Try.underlying22)); exact rfl) | ((with_reducible apply w_lens (ht := Try.underlying23)); exact rfl) | ((with_reducible apply w_lens (ht := Try.underlying39)); exact rfl) | ((with_reducible apply w_lens (ht := Try.underlying40)); exact rfl) | ((with_reducible apply w_lens (ht := Try.underlying47)); exact rfl) | ((with_reducible apply w_lens (ht := Try.underlying48)); exact rfl) | ((with_reducible apply w_lenstr (ht := Try.underlying9)); exact rfl)))
  (refine sq_nil ?_)
  refine sq_region ?_
  (repeat (first | ((with_reducible apply w_mv); first | exact (rfl : _ = Value.int _ _) | exact (rfl : _ = Value.bool _) | exact (rfl : _ = Value.slice _ _ _) | exact (rfl : _ = Value.map _) | exact (rfl : _ = Value.pointer _) | exact (rfl : _ = Value.string _) | exact (rfl : _ = Value.tuple _) | exact rfl) | ((with_reducible apply w_as); first | exact (rfl : _ = Value.int _ _) | exact (rfl : _ = Value.bool _) | exact (rfl : _ = Value.slice _ _ _) | exact (rfl : _ = Value.map _) | exact (rfl : _ = Value.pointer _) | exact (rfl : _ = Value.string _) | exact (rfl : _ = Value.tuple _) | exact rfl) | ((with_reducible apply w_ext); exact rfl; exact rfl) | ((with_reducible apply w_not); exact rfl) | ((with_reducible apply w_nc); exact rfl) | ((with_reducible apply w_lss); exact rfl; exact rfl) | ((with_reducible apply w_gtr); exact rfl; exact rfl) | ((with_reducible apply w_geq); exact rfl; exact rfl) | ((with_reducible apply w_eql); exact rfl; exact rfl) | ((with_reducible apply w_neq); exact rfl; exact rfl) | ((with_reducible apply w_seql); exact rfl; exact rfl) | ((with_reducible apply w_sneq); exact rfl; exact rfl) | ((with_reducible apply w_beql (ht := Try.underlying4)); exact rfl; exact rfl) | ((with_reducible apply w_bneq (ht := Try.underlying4)); exact rfl; exact rfl) | ((with_reducible apply w_lens (ht := Try.underlying22)); exact rfl) | ((with_reducible apply w_lens (ht := Try.underlying23)); exact rfl) | ((with_reducible apply w_lens (ht := Try.underlying39)); exact rfl) | ((with_reducible apply w_lens (ht := Try.underlying40)); exact rfl) | ((with_reducible apply w_lens (ht := Try.underlying47)); exact rfl) | ((with_reducible apply w_lens (ht := Try.underlying48)); exact rfl) | ((with_reducible apply w_lenstr (ht := Try.underlying9)); exact rfl)))
  (refine sq_nil ?_)
  exact wp_ret (leave1 (v := .bool _) rfl rfl ⟨rfl, _, rfl⟩)
end Go.Proofs.Qxb6600002a
