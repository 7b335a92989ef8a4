/-
  Take, Waiting, Add.
-/
import Derived.Test.Qxb6600002aWorld
namespace Go.Proofs.Qxb6600002a
set_option linter.unusedSimpArgs false
set_option linter.unusedVariables false
open Go.MapKept Go.ChangeMaps Go.RowKit

/-! ### maps at the operation -/
section
variable {P : Program} {n : Nat} {f : Nat → Value} {w : World} {ops : Array Oper} {Q : Exit → Act → World → Prop} {rest : List Oper} {ty : TypeId} {pos : String} {aft : Array Edge} {d : Nat} {x y z : Operand} {t e kt : TypeId} {id : Nat} {a : Act}
variable {α : Type} {enc : α → Value} {m left : List (ByteArray × α)} {bm r : Nat} {s : ByteArray}

theorem wl_range (hm : MapAt enc w bm m) (ht : P.underlying t = some (.map kt e)) (hx : ev n f x = .map (some bm))
    (h : ∀ o, RangeAt enc (w.alloc o) bm w.heap.size m m → wpList P ops Q rest (Fr n (upd f d (.pointer (some ⟨w.heap.size, 0, none⟩)))) (w.alloc o)) : wpList P ops Q (⟨some d, .range t x, ty, pos, aft, none⟩ :: rest) (Fr n f) w := by
  obtain ⟨o, hrun, hr⟩ := ex_range (P := P) (n := n) (f := f) (d := some d) (g := none) (ty := ty) (pos := pos) (aft := aft) hm ht hx
  exact wl_val hrun (h o hr)

theorem wl_mapUpdate {val : α} (hm : MapAt enc w bm m) (ht : P.underlying t = some (.map kt e)) (hk : P.underlying kt = some .string) (hx : ev n f x = .map (some bm)) (hy : ev n f y = .string s) (hz : ev n f z = enc val)
    (h : ∀ w', MapAt enc w' bm (mput m s val) → w.grownBy w' (some bm) → w'.heap.size = w.heap.size → wpList P ops Q rest (Fr n f) w') : wpList P ops Q (⟨none, .mapUpdate t x y z, ty, pos, aft, none⟩ :: rest) (Fr n f) w := by
  obtain ⟨w', hrun, h1, h2, h3⟩ := ex_mapUpdate (P := P) (n := n) (f := f) (d := none) (g := none) (ty := ty) (pos := pos) (aft := aft) hm ht hk hx hy hz
  exact wl_unit hrun (h w' h1 h2 h3)

theorem wl_delete (hm : MapAt enc w bm m) (ht : P.underlying t = some (.map kt e)) (hk : P.underlying kt = some .string) (hx : ev n f x = .map (some bm)) (hy : ev n f y = .string s)
    (h : ∀ w', MapAt enc w' bm (mdel m s) → w.grownBy w' (some bm) → w'.heap.size = w.heap.size → wpList P ops Q rest (Fr n f) w') : wpList P ops Q (⟨none, .call { callee := .builtin .delete, args := #[x, y], argTypes := #[t, kt] }, ty, pos, aft, none⟩ :: rest) (Fr n f) w := by
  obtain ⟨w', hrun, h1, h2, h3⟩ := ex_delete (P := P) (n := n) (f := f) (d := none) (g := none) (ty := ty) (pos := pos) (aft := aft) hm ht hk hx hy
  exact wl_val0 hrun (h w' h1 h2 h3)

theorem wl_next (hr : RangeAt enc w bm r m left) (hx : ev n f x = .pointer (some ⟨r, 0, none⟩))
    (h0 : left = [] → wpList P ops Q rest (Fr n (upd f d (.tuple #[.bool false]))) w)
    (h1 : ∀ s val w', (s, val) ∈ left → RangeAt enc w' bm r m (left.filter fun q => !decide (q.1 = s)) → w.grownBy w' (some r) → w'.heap.size = w.heap.size →
      (Instr.entry (.pointer (some ⟨r, 0, none⟩))).run P w' = .ok (.tuple #[.string s, enc val]) w' → wpList P ops Q rest (Fr n (upd f d (.tuple #[.bool true, .string s, enc val]))) w') :
    wpList P ops Q (⟨some d, .next x false, ty, pos, aft, none⟩ :: rest) (Fr n f) w := by
  rcases ex_next (P := P) (n := n) (f := f) (d := some d) (g := none) (ty := ty) (pos := pos) (aft := aft) hr hx with ⟨he, hrun⟩ | ⟨s, val, w', hm, hrun, h2, h3, h4, h5⟩
  · exact wl_val hrun (h0 he)
  · exact wl_val hrun (h1 s val w' hm h2 h3 h4 h5)

/-- A region whose order is drawn: quiet operations, then the rest in the text's order. -/
theorem region_tail {l l1 l2 : List Oper} (hl : l = l1 ++ l2) (hm : P.follows .mixedOrders = true) (hB : Region.lexTailB .any l.toArray l1.length = true) (h : wpStill P l.toArray w.drew (fun a' => wpList P l.toArray Q l2 a' w.drew) l1 a) :
    (Code.region id l.toArray true).wp P Q a w := by
  refine wp_region_still_tail l1.length hm hB ?_
  have e1 : l.take l1.length = l1 := by rw [hl]; simp
  have e2 : l.drop l1.length = l2 := by rw [hl]; simp
  rw [e1, e2]
  exact h

theorem region_still {l : List Oper} (hm : P.follows .mixedOrders = true) (hB : Region.lexB .any l.toArray = true) (h : wpStill P l.toArray w.drew (fun a' => Q .normal a' w.drew) l a) :
    (Code.region id l.toArray true).wp P Q a w := wp_region_still_lit hm hB h
end

theorem mixed : Try.prog.follows .mixedOrders = true := by kernel_rfl

theorem mget_filter {α : Type} (l : List (ByteArray × α)) (s k : ByteArray) : mget (l.filter fun q => !decide (q.1 = s)) k = if s = k then none else mget l k := by
  induction l with
  | nil => simp [mget]
  | cons p r ih =>
    by_cases hp : p.1 = s
    · simp only [List.filter_cons, hp, decide_true, Bool.not_true, Bool.false_eq_true, if_false, ih, mget]
      by_cases hk : s = k
      · simp [hk]
      · simp [hk]
    · simp only [List.filter_cons, hp, decide_false, Bool.not_false, if_true, mget, ih]
      by_cases hk : s = k
      · have : ¬ p.1 = k := fun e => hp (e.trans hk.symm)
        simp [hk, this]
      · simp [hk]

theorem uniq_sub {α : Type} {l m : List (ByteArray × α)} (hs : l.Sublist m) (hu : Uniq m) : Uniq l := (hs.map _).nodup hu
theorem mget_sub {α : Type} {l m : List (ByteArray × α)} (hs : l.Sublist m) (hu : Uniq m) {k : ByteArray} {v : α} (h : mget l k = some v) : mget m k = some v :=
  mget_of_mem (p := (k, v)) hu (hs.subset (mget_some_mem h))

section
variable {P : Program} {n : Nat} {f : Nat → Value} {w : World} {ty : TypeId} {pos : String} {aft : Array Edge} {d : Option Tmp} {g : Option (Nat × Bool)} {x y : Operand} {k : IntKind} {i j : Nat} {t t' : TypeId}
theorem ex_maxn (hx : ev n f x = .int k (i : Nat)) (hy : ev n f y = .int k (j : Nat)) :
    (execOp (ev n f) ⟨d, .call { callee := .builtin .max, args := #[x, y], argTypes := #[t, t'] }, ty, pos, aft, g⟩).run P w = .ok (.value (.int k ((max i j : Nat) : Int))) w := by
  rw [ex_max hx hy]
  have : (if (j : Int) > (i : Int) then (j : Int) else i) = ((max i j : Nat) : Int) := by split <;> omega
  rw [this]
theorem ex_minn (hx : ev n f x = .int k (i : Nat)) (hy : ev n f y = .int k (j : Nat)) :
    (execOp (ev n f) ⟨d, .call { callee := .builtin .min, args := #[x, y], argTypes := #[t, t'] }, ty, pos, aft, g⟩).run P w = .ok (.value (.int k ((min i j : Nat) : Int))) w := by
  rw [ex_min hx hy]
  have : (if (j : Int) < (i : Int) then (j : Int) else i) = ((min i j : Nat) : Int) := by split <;> omega
  rw [this]
end
theorem size29 : (Try.prog.info? 29).map (·.size) = some 1 := by kernel_rfl
theorem cell3_0 {w : World} {b : Nat} {c0 c1 c2 : Value} {e : TypeId} {fz : Nat × Nat} (hb : w.heap[b]? = some (.cells #[c0, c1, c2] e fz)) : w.cell? ⟨b, 0, none⟩ = some c0 := (cell_of_block hb).trans rfl
theorem cell3_1 {w : World} {b : Nat} {c0 c1 c2 : Value} {e : TypeId} {fz : Nat × Nat} (hb : w.heap[b]? = some (.cells #[c0, c1, c2] e fz)) : w.cell? ⟨b, 1, none⟩ = some c1 := (cell_of_block hb).trans rfl
theorem cell3_2 {w : World} {b : Nat} {c0 c1 c2 : Value} {e : TypeId} {fz : Nat × Nat} (hb : w.heap[b]? = some (.cells #[c0, c1, c2] e fz)) : w.cell? ⟨b, 2, none⟩ = some c2 := (cell_of_block hb).trans rfl

/-! ### Take -/
def tl (m : List (ByteArray × Tl)) (k : ByteArray) : Tl := (mget m k).getD zT
def befOf (t : Tl) (n : Nat) : Nat := if t.taken < n then max t.before (n - t.taken) else t.before
def waitOf (t : Tl) (n : Nat) : Nat := n - min n (befOf t n)
def stepOf (t : Tl) (n : Nat) : Tl := ⟨befOf t n, t.taken + 1, t.applied⟩

/-- The tallies are small numbers. -/
def Small (m : List (ByteArray × Tl)) : Prop := ∀ k t, mget m k = some t → t.before < 18446744073709551616 ∧ t.taken < 18446744073709551615 ∧ t.applied < 18446744073709551615

theorem Small.tl {m : List (ByteArray × Tl)} (h : Small m) (k : ByteArray) : (tl m k).before < 18446744073709551616 ∧ (tl m k).taken < 18446744073709551615 ∧ (tl m k).applied < 18446744073709551615 := by
  unfold Go.Proofs.Qxb6600002a.tl
  cases hk : mget m k with
  | none => simp [zT]
  | some t => exact h k t hk

theorem take_any (A M D : Nat) (m : List (ByteArray × Tl)) (dm : List (ByteArray × Nat)) (w : World) (h : App w A M m) (hd : MapAt encU w D dm) (hDM : D ≠ M) (hs : Small m) (hn : ∀ p ∈ dm, p.2 < 18446744073709551616) :
    Calls Try.prog 12 #[.pointer (some ⟨A, 0, none⟩), .map (some D)] w fun e w' => ∃ wm m', e = .returned (.map (some w.heap.size)) ∧ w.heap.size < w'.heap.size ∧ MapAt encU w' w.heap.size wm ∧ App w' A M m' ∧ Kp w.heap.size [M] w w' ∧
      (∀ k, mget wm k = (mget dm k).map fun n => waitOf (tl m k) n) ∧ (∀ k, mget m' k = match mget dm k with | none => mget m k | some n => some (stepOf (tl m k) n)) := by
  have hA := h.ltA
  have hAM := h.ne
  have hM := h.2.lt
  have hD := hd.lt
  refine enter2 Try.func12 rfl Try.ntmps12 (by decide) fun g => ?_
  refine sq_region ?_
  (repeat (first | ((with_reducible apply w_mv); first | exact (rfl : _ = Value.int _ _) | exact (rfl : _ = Value.bool _) | exact (rfl : _ = Value.slice _ _ _) | exact (rfl : _ = Value.map _) | exact (rfl : _ = Value.pointer _) | exact (rfl : _ = Value.string _) | exact (rfl : _ = Value.tuple _) | exact rfl) | ((with_reducible apply w_as); first | exact (rfl : _ = Value.int _ _) | exact (rfl : _ = Value.bool _) | exact (rfl : _ = Value.slice _ _ _) | exact (rfl : _ = Value.map _) | exact (rfl : _ = Value.pointer _) | exact (rfl : _ = Value.string _) | exact (rfl : _ = Value.tuple _) | exact rfl) | ((with_reducible apply w_ext); exact rfl; exact rfl) | ((with_reducible apply w_not); exact rfl) | ((with_reducible apply w_nc); exact rfl) | ((with_reducible apply w_lss); exact rfl; exact rfl) | ((with_reducible apply w_gtr); exact rfl; exact rfl) | ((with_reducible apply w_geq); exact rfl; exact rfl) | ((with_reducible apply w_eql); exact rfl; exact rfl) | ((with_reducible apply w_neq); exact rfl; exact rfl) | ((with_reducible apply w_seql); exact rfl; exact rfl) | ((with_reducible apply w_sneq); exact rfl; exact rfl) | ((with_reducible apply w_beql (ht := Try.underlying4)); exact rfl; exact rfl) | ((with_reducible apply w_bneq (ht := Try.underlying4)); exact rfl; exact rfl) | ((with_reducible apply w_lens (ht := Try.underlying22)); exact rfl) | ((with_reducible apply w_lens (ht := Try.underlying23)); exact rfl) | ((with_reducible apply w_lens (ht := Try.underlying39)); exact rfl) | ((with_reducible apply w_lens (ht := Try.underlying40)); exact rfl) | ((with_reducible apply w_lens (ht := Try.underlying47)); exact rfl) | ((with_reducible apply w_lens (ht := Try.underlying48)); exact rfl) | ((with_reducible apply w_lenstr (ht := Try.underlying9)); exact rfl)))
  (refine sq_nil ?_)
  refine sq_region ?_
  (repeat (first | ((with_reducible apply w_mv); first | exact (rfl : _ = Value.int _ _) | exact (rfl : _ = Value.bool _) | exact (rfl : _ = Value.slice _ _ _) | exact (rfl : _ = Value.map _) | exact (rfl : _ = Value.pointer _) | exact (rfl : _ = Value.string _) | exact (rfl : _ = Value.tuple _) | exact rfl) | ((with_reducible apply w_as); first | exact (rfl : _ = Value.int _ _) | exact (rfl : _ = Value.bool _) | exact (rfl : _ = Value.slice _ _ _) | exact (rfl : _ = Value.map _) | exact (rfl : _ = Value.pointer _) | exact (rfl : _ = Value.string _) | exact (rfl : _ = Value.tuple _) | exact rfl) | ((with_reducible apply w_ext); exact rfl; exact rfl) | ((with_reducible apply w_not); exact rfl) | ((with_reducible apply w_nc); exact rfl) | ((with_reducible apply w_lss); exact rfl; exact rfl) | ((with_reducible apply w_gtr); exact rfl; exact rfl) | ((with_reducible apply w_geq); exact rfl; exact rfl) | ((with_reducible apply w_eql); exact rfl; exact rfl) | ((with_reducible apply w_neq); exact rfl; exact rfl) | ((with_reducible apply w_seql); exact rfl; exact rfl) | ((with_reducible apply w_sneq); exact rfl; exact rfl) | ((with_reducible apply w_beql (ht := Try.underlying4)); exact rfl; exact rfl) | ((with_reducible apply w_bneq (ht := Try.underlying4)); exact rfl; exact rfl) | ((with_reducible apply w_lens (ht := Try.underlying22)); exact rfl) | ((with_reducible apply w_lens (ht := Try.underlying23)); exact rfl) | ((with_reducible apply w_lens (ht := Try.underlying39)); exact rfl) | ((with_reducible apply w_lens (ht := Try.underlying40)); exact rfl) | ((with_reducible apply w_lens (ht := Try.underlying47)); exact rfl) | ((with_reducible apply w_lens (ht := Try.underlying48)); exact rfl) | ((with_reducible apply w_lenstr (ht := Try.underlying9)); exact rfl)))
  refine wl_val (ex_len_map hd Try.underlying28 rfl) ?_
  refine wl_val (ex_makeMap Try.underlying28 rfl) ?_
  (repeat (first | ((with_reducible apply w_mv); first | exact (rfl : _ = Value.int _ _) | exact (rfl : _ = Value.bool _) | exact (rfl : _ = Value.slice _ _ _) | exact (rfl : _ = Value.map _) | exact (rfl : _ = Value.pointer _) | exact (rfl : _ = Value.string _) | exact (rfl : _ = Value.tuple _) | exact rfl) | ((with_reducible apply w_as); first | exact (rfl : _ = Value.int _ _) | exact (rfl : _ = Value.bool _) | exact (rfl : _ = Value.slice _ _ _) | exact (rfl : _ = Value.map _) | exact (rfl : _ = Value.pointer _) | exact (rfl : _ = Value.string _) | exact (rfl : _ = Value.tuple _) | exact rfl) | ((with_reducible apply w_ext); exact rfl; exact rfl) | ((with_reducible apply w_not); exact rfl) | ((with_reducible apply w_nc); exact rfl) | ((with_reducible apply w_lss); exact rfl; exact rfl) | ((with_reducible apply w_gtr); exact rfl; exact rfl) | ((with_reducible apply w_geq); exact rfl; exact rfl) | ((with_reducible apply w_eql); exact rfl; exact rfl) | ((with_reducible apply w_neq); exact rfl; exact rfl) | ((with_reducible apply w_seql); exact rfl; exact rfl) | ((with_reducible apply w_sneq); exact rfl; exact rfl) | ((with_reducible apply w_beql (ht := Try.underlying4)); exact rfl; exact rfl) | ((with_reducible apply w_bneq (ht := Try.underlying4)); exact rfl; exact rfl) | ((with_reducible apply w_lens (ht := Try.underlying22)); exact rfl) | ((with_reducible apply w_lens (ht := Try.underlying23)); exact rfl) | ((with_reducible apply w_lens (ht := Try.underlying39)); exact rfl) | ((with_reducible apply w_lens (ht := Try.underlying40)); exact rfl) | ((with_reducible apply w_lens (ht := Try.underlying47)); exact rfl) | ((with_reducible apply w_lens (ht := Try.underlying48)); exact rfl) | ((with_reducible apply w_lenstr (ht := Try.underlying9)); exact rfl)))
  (refine sq_nil ?_)
  have ea : ∀ i, i < w.heap.size → (w.alloc (.map #[] 0)).heap[i]? = w.heap[i]? := (heap_alloc w (.map #[] 0)).2
  have hd1 : MapAt encU (w.alloc (.map #[] 0)) D dm := hd.of_block (ea D hD)
  have hw1 := MapAt.made encU w
  have sz1 : (w.alloc (.map #[] 0)).heap.size = w.heap.size + 1 := by simp
  refine wp_seq (sq_region ?_)
  (repeat (first | ((with_reducible apply w_mv); first | exact (rfl : _ = Value.int _ _) | exact (rfl : _ = Value.bool _) | exact (rfl : _ = Value.slice _ _ _) | exact (rfl : _ = Value.map _) | exact (rfl : _ = Value.pointer _) | exact (rfl : _ = Value.string _) | exact (rfl : _ = Value.tuple _) | exact rfl) | ((with_reducible apply w_as); first | exact (rfl : _ = Value.int _ _) | exact (rfl : _ = Value.bool _) | exact (rfl : _ = Value.slice _ _ _) | exact (rfl : _ = Value.map _) | exact (rfl : _ = Value.pointer _) | exact (rfl : _ = Value.string _) | exact (rfl : _ = Value.tuple _) | exact rfl) | ((with_reducible apply w_ext); exact rfl; exact rfl) | ((with_reducible apply w_not); exact rfl) | ((with_reducible apply w_nc); exact rfl) | ((with_reducible apply w_lss); exact rfl; exact rfl) | ((with_reducible apply w_gtr); exact rfl; exact rfl) | ((with_reducible apply w_geq); exact rfl; exact rfl) | ((with_reducible apply w_eql); exact rfl; exact rfl) | ((with_reducible apply w_neq); exact rfl; exact rfl) | ((with_reducible apply w_seql); exact rfl; exact rfl) | ((with_reducible apply w_sneq); exact rfl; exact rfl) | ((with_reducible apply w_beql (ht := Try.underlying4)); exact rfl; exact rfl) | ((with_reducible apply w_bneq (ht := Try.underlying4)); exact rfl; exact rfl) | ((with_reducible apply w_lens (ht := Try.underlying22)); exact rfl) | ((with_reducible apply w_lens (ht := Try.underlying23)); exact rfl) | ((with_reducible apply w_lens (ht := Try.underlying39)); exact rfl) | ((with_reducible apply w_lens (ht := Try.underlying40)); exact rfl) | ((with_reducible apply w_lens (ht := Try.underlying47)); exact rfl) | ((with_reducible apply w_lens (ht := Try.underlying48)); exact rfl) | ((with_reducible apply w_lenstr (ht := Try.underlying9)); exact rfl)))
  refine wl_range hd1 Try.underlying28 rfl fun o hr0 => ?_
  (refine sq_nil ?_)
  generalize hwo : (w.alloc (.map #[] 0)).alloc o = wo at hr0
  have eo : ∀ i, i < w.heap.size + 1 → wo.heap[i]? = (w.alloc (.map #[] 0)).heap[i]? := fun i hi => by rw [← hwo]; exact (heap_alloc _ o).2 i (by rw [sz1]; exact hi)
  have szo : wo.heap.size = w.heap.size + 2 := by rw [← hwo]; simp
  have kp0 : Kp w.heap.size [M] w wo := by rw [← hwo]; exact ((Kp.refl _ _ w).alloc (Nat.le_refl _) _).alloc (by simp) _
  have app0 : App wo A M m := h.keep ((eo A (by omega)).trans (ea A hA)) ((eo M (by omega)).trans (ea M hM))
  have map0 : MapAt encU wo w.heap.size [] := hw1.of_block (eo _ (by omega))
  rw [sz1] at hr0 ⊢
  clear hwo
  refine wp_block ?_
  refine loop_ghost (ι := List (ByteArray × Nat)) (fun left a wr => ∃ f wm m', a = Fr 56 f ∧ f 0 = .pointer (some ⟨A, 0, none⟩) ∧ f 5 = .map (some w.heap.size) ∧ f 13 = .pointer (some ⟨w.heap.size + 1, 0, none⟩) ∧
      RangeAt encU wr D (w.heap.size + 1) dm left ∧ MapAt encU wr w.heap.size wm ∧ App wr A M m' ∧ Kp w.heap.size [M] w wr ∧ w.heap.size + 2 ≤ wr.heap.size ∧
      (∀ k, mget wm k = if (mget left k).isSome then none else (mget dm k).map fun n => waitOf (tl m k) n) ∧ (∀ k, mget m' k = if (mget left k).isSome then mget m k else match mget dm k with | none => mget m k | some n => some (stepOf (tl m k) n)))
    (fun left => left.length) dm ?_ ?_
  · refine ⟨_, [], m, rfl, rfl, rfl, rfl, hr0, map0, app0, kp0, by omega, fun k => ?_, fun k => ?_⟩
    · cases hk : mget dm k <;> simp [mget]
    · cases hk : mget dm k <;> simp
  · rintro left a wr ⟨f, wm, m', rfl, f0, f5, f13, hr, hwm, happ, kp, sz, e1, e2⟩
    obtain ⟨g, rfl⟩ : ∃ g, f = upd (upd (upd g 0 (.pointer (some ⟨A, 0, none⟩))) 5 (.map (some w.heap.size))) 13 (.pointer (some ⟨w.heap.size + 1, 0, none⟩)) := ⟨f, by rw [← upd_id f0, ← upd_id f5, ← upd_id f13]⟩
    clear f0 f5 f13
    refine sq_region ?_
    refine wl_next hr rfl ?_ ?_
    · rintro rfl
      (repeat (first | ((with_reducible apply w_mv); first | exact (rfl : _ = Value.int _ _) | exact (rfl : _ = Value.bool _) | exact (rfl : _ = Value.slice _ _ _) | exact (rfl : _ = Value.map _) | exact (rfl : _ = Value.pointer _) | exact (rfl : _ = Value.string _) | exact (rfl : _ = Value.tuple _) | exact rfl) | ((with_reducible apply w_as); first | exact (rfl : _ = Value.int _ _) | exact (rfl : _ = Value.bool _) | exact (rfl : _ = Value.slice _ _ _) | exact (rfl : _ = Value.map _) | exact (rfl : _ = Value.pointer _) | exact (rfl : _ = Value.string _) | exact (rfl : _ = Value.tuple _) | exact rfl) | ((with_reducible apply w_ext); exact rfl; exact rfl) | ((with_reducible apply w_not); exact rfl) | ((with_reducible apply w_nc); exact rfl) | ((with_reducible apply w_lss); exact rfl; exact rfl) | ((with_reducible apply w_gtr); exact rfl; exact rfl) | ((with_reducible apply w_geq); exact rfl; exact rfl) | ((with_reducible apply w_eql); exact rfl; exact rfl) | ((with_reducible apply w_neq); exact rfl; exact rfl) | ((with_reducible apply w_seql); exact rfl; exact rfl) | ((with_reducible apply w_sneq); exact rfl; exact rfl) | ((with_reducible apply w_beql (ht := Try.underlying4)); exact rfl; exact rfl) | ((with_reducible apply w_bneq (ht := Try.underlying4)); exact rfl; exact rfl) | ((with_reducible apply w_lens (ht := Try.underlying22)); exact rfl) | ((with_reducible apply w_lens (ht := Try.underlying23)); exact rfl) | ((with_reducible apply w_lens (ht := Try.underlying39)); exact rfl) | ((with_reducible apply w_lens (ht := Try.underlying40)); exact rfl) | ((with_reducible apply w_lens (ht := Try.underlying47)); exact rfl) | ((with_reducible apply w_lens (ht := Try.underlying48)); exact rfl) | ((with_reducible apply w_lenstr (ht := Try.underlying9)); exact rfl)))
      (refine sq_nil ?_)
      refine wp_seq (cond_n rfl rfl (wp_exit ?_))
      refine xt_exit (xt_exit (xb_same ?_))
      refine xt_n (sq_region ?_)
      (repeat (first | ((with_reducible apply w_mv); first | exact (rfl : _ = Value.int _ _) | exact (rfl : _ = Value.bool _) | exact (rfl : _ = Value.slice _ _ _) | exact (rfl : _ = Value.map _) | exact (rfl : _ = Value.pointer _) | exact (rfl : _ = Value.string _) | exact (rfl : _ = Value.tuple _) | exact rfl) | ((with_reducible apply w_as); first | exact (rfl : _ = Value.int _ _) | exact (rfl : _ = Value.bool _) | exact (rfl : _ = Value.slice _ _ _) | exact (rfl : _ = Value.map _) | exact (rfl : _ = Value.pointer _) | exact (rfl : _ = Value.string _) | exact (rfl : _ = Value.tuple _) | exact rfl) | ((with_reducible apply w_ext); exact rfl; exact rfl) | ((with_reducible apply w_not); exact rfl) | ((with_reducible apply w_nc); exact rfl) | ((with_reducible apply w_lss); exact rfl; exact rfl) | ((with_reducible apply w_gtr); exact rfl; exact rfl) | ((with_reducible apply w_geq); exact rfl; exact rfl) | ((with_reducible apply w_eql); exact rfl; exact rfl) | ((with_reducible apply w_neq); exact rfl; exact rfl) | ((with_reducible apply w_seql); exact rfl; exact rfl) | ((with_reducible apply w_sneq); exact rfl; exact rfl) | ((with_reducible apply w_beql (ht := Try.underlying4)); exact rfl; exact rfl) | ((with_reducible apply w_bneq (ht := Try.underlying4)); exact rfl; exact rfl) | ((with_reducible apply w_lens (ht := Try.underlying22)); exact rfl) | ((with_reducible apply w_lens (ht := Try.underlying23)); exact rfl) | ((with_reducible apply w_lens (ht := Try.underlying39)); exact rfl) | ((with_reducible apply w_lens (ht := Try.underlying40)); exact rfl) | ((with_reducible apply w_lens (ht := Try.underlying47)); exact rfl) | ((with_reducible apply w_lens (ht := Try.underlying48)); exact rfl) | ((with_reducible apply w_lenstr (ht := Try.underlying9)); exact rfl)))
      (refine sq_nil ?_)
      refine wp_ret (leave1 (v := .map _) rfl rfl ⟨wm, m', rfl, by omega, hwm, happ, kp, fun k => ?_, fun k => ?_⟩)
      · rw [e1 k]; simp [mget]
      · rw [e2 k]; simp [mget]
    · intro s val w1 hmem hr1 hg1 hs1 hen
      have hlk : mget left s = some val := mget_of_mem (p := (s, val)) (uniq_sub hr.sub hr.map.uniq) hmem
      have hdk : mget dm s = some val := mget_sub hr.sub hr.map.uniq hlk
      have hval : val < 18446744073709551616 := hn (s, val) (mget_some_mem hdk)
      have hm's : mget m' s = mget m s := by rw [e2 s, hlk]; rfl
      have htl : (mget m' s).getD zT = tl m s := by rw [hm's]; rfl
      have hsm := hs.tl s
      have kp1 : Kp w.heap.size [M] w w1 := kp.grown hg1 (by omega) (Or.inl (by omega))
      have k1 : ∀ i, i < wr.heap.size → i ≠ w.heap.size + 1 → w1.heap[i]? = wr.heap[i]? := fun i hi hne => hg1.block i hi (by simpa using hne)
      have app1 : App w1 A M m' := happ.keep (k1 A (by omega) (by omega)) (k1 M (by omega) (by omega))
      have wm1 : MapAt encU w1 w.heap.size wm := hwm.of_block (k1 _ (by omega) (by omega))
      have sz2 : w.heap.size + 2 ≤ w1.heap.size := by omega
      (repeat (first | ((with_reducible apply w_mv); first | exact (rfl : _ = Value.int _ _) | exact (rfl : _ = Value.bool _) | exact (rfl : _ = Value.slice _ _ _) | exact (rfl : _ = Value.map _) | exact (rfl : _ = Value.pointer _) | exact (rfl : _ = Value.string _) | exact (rfl : _ = Value.tuple _) | exact rfl) | ((with_reducible apply w_as); first | exact (rfl : _ = Value.int _ _) | exact (rfl : _ = Value.bool _) | exact (rfl : _ = Value.slice _ _ _) | exact (rfl : _ = Value.map _) | exact (rfl : _ = Value.pointer _) | exact (rfl : _ = Value.string _) | exact (rfl : _ = Value.tuple _) | exact rfl) | ((with_reducible apply w_ext); exact rfl; exact rfl) | ((with_reducible apply w_not); exact rfl) | ((with_reducible apply w_nc); exact rfl) | ((with_reducible apply w_lss); exact rfl; exact rfl) | ((with_reducible apply w_gtr); exact rfl; exact rfl) | ((with_reducible apply w_geq); exact rfl; exact rfl) | ((with_reducible apply w_eql); exact rfl; exact rfl) | ((with_reducible apply w_neq); exact rfl; exact rfl) | ((with_reducible apply w_seql); exact rfl; exact rfl) | ((with_reducible apply w_sneq); exact rfl; exact rfl) | ((with_reducible apply w_beql (ht := Try.underlying4)); exact rfl; exact rfl) | ((with_reducible apply w_bneq (ht := Try.underlying4)); exact rfl; exact rfl) | ((with_reducible apply w_lens (ht := Try.underlying22)); exact rfl) | ((with_reducible apply w_lens (ht := Try.underlying23)); exact rfl) | ((with_reducible apply w_lens (ht := Try.underlying39)); exact rfl) | ((with_reducible apply w_lens (ht := Try.underlying40)); exact rfl) | ((with_reducible apply w_lens (ht := Try.underlying47)); exact rfl) | ((with_reducible apply w_lens (ht := Try.underlying48)); exact rfl) | ((with_reducible apply w_lenstr (ht := Try.underlying9)); exact rfl)))
      (refine sq_nil ?_)
      refine wp_seq (cond_y rfl rfl (wp_skip (xt_n (wp_block ?_))))
      refine sq_region ?_
      refine wl_val (ex_entry rfl hen) ?_
      (repeat (first | ((with_reducible apply w_mv); first | exact (rfl : _ = Value.int _ _) | exact (rfl : _ = Value.bool _) | exact (rfl : _ = Value.slice _ _ _) | exact (rfl : _ = Value.map _) | exact (rfl : _ = Value.pointer _) | exact (rfl : _ = Value.string _) | exact (rfl : _ = Value.tuple _) | exact rfl) | ((with_reducible apply w_as); first | exact (rfl : _ = Value.int _ _) | exact (rfl : _ = Value.bool _) | exact (rfl : _ = Value.slice _ _ _) | exact (rfl : _ = Value.map _) | exact (rfl : _ = Value.pointer _) | exact (rfl : _ = Value.string _) | exact (rfl : _ = Value.tuple _) | exact rfl) | ((with_reducible apply w_ext); exact rfl; exact rfl) | ((with_reducible apply w_not); exact rfl) | ((with_reducible apply w_nc); exact rfl) | ((with_reducible apply w_lss); exact rfl; exact rfl) | ((with_reducible apply w_gtr); exact rfl; exact rfl) | ((with_reducible apply w_geq); exact rfl; exact rfl) | ((with_reducible apply w_eql); exact rfl; exact rfl) | ((with_reducible apply w_neq); exact rfl; exact rfl) | ((with_reducible apply w_seql); exact rfl; exact rfl) | ((with_reducible apply w_sneq); exact rfl; exact rfl) | ((with_reducible apply w_beql (ht := Try.underlying4)); exact rfl; exact rfl) | ((with_reducible apply w_bneq (ht := Try.underlying4)); exact rfl; exact rfl) | ((with_reducible apply w_lens (ht := Try.underlying22)); exact rfl) | ((with_reducible apply w_lens (ht := Try.underlying23)); exact rfl) | ((with_reducible apply w_lens (ht := Try.underlying39)); exact rfl) | ((with_reducible apply w_lens (ht := Try.underlying40)); exact rfl) | ((with_reducible apply w_lens (ht := Try.underlying47)); exact rfl) | ((with_reducible apply w_lens (ht := Try.underlying48)); exact rfl) | ((with_reducible apply w_lenstr (ht := Try.underlying9)); exact rfl)))
      (refine sq_nil ?_)
      refine sq_region ?_
      (repeat (first | ((with_reducible apply w_mv); first | exact (rfl : _ = Value.int _ _) | exact (rfl : _ = Value.bool _) | exact (rfl : _ = Value.slice _ _ _) | exact (rfl : _ = Value.map _) | exact (rfl : _ = Value.pointer _) | exact (rfl : _ = Value.string _) | exact (rfl : _ = Value.tuple _) | exact rfl) | ((with_reducible apply w_as); first | exact (rfl : _ = Value.int _ _) | exact (rfl : _ = Value.bool _) | exact (rfl : _ = Value.slice _ _ _) | exact (rfl : _ = Value.map _) | exact (rfl : _ = Value.pointer _) | exact (rfl : _ = Value.string _) | exact (rfl : _ = Value.tuple _) | exact rfl) | ((with_reducible apply w_ext); exact rfl; exact rfl) | ((with_reducible apply w_not); exact rfl) | ((with_reducible apply w_nc); exact rfl) | ((with_reducible apply w_lss); exact rfl; exact rfl) | ((with_reducible apply w_gtr); exact rfl; exact rfl) | ((with_reducible apply w_geq); exact rfl; exact rfl) | ((with_reducible apply w_eql); exact rfl; exact rfl) | ((with_reducible apply w_neq); exact rfl; exact rfl) | ((with_reducible apply w_seql); exact rfl; exact rfl) | ((with_reducible apply w_sneq); exact rfl; exact rfl) | ((with_reducible apply w_beql (ht := Try.underlying4)); exact rfl; exact rfl) | ((with_reducible apply w_bneq (ht := Try.underlying4)); exact rfl; exact rfl) | ((with_reducible apply w_lens (ht := Try.underlying22)); exact rfl) | ((with_reducible apply w_lens (ht := Try.underlying23)); exact rfl) | ((with_reducible apply w_lens (ht := Try.underlying39)); exact rfl) | ((with_reducible apply w_lens (ht := Try.underlying40)); exact rfl) | ((with_reducible apply w_lens (ht := Try.underlying47)); exact rfl) | ((with_reducible apply w_lens (ht := Try.underlying48)); exact rfl) | ((with_reducible apply w_lenstr (ht := Try.underlying9)); exact rfl)))
      refine wl_val (ex_f63 rfl) ?_
      refine wl_val (ex_load Try.underlying61 rfl rfl app1.1) ?_
      (repeat (first | ((with_reducible apply w_mv); first | exact (rfl : _ = Value.int _ _) | exact (rfl : _ = Value.bool _) | exact (rfl : _ = Value.slice _ _ _) | exact (rfl : _ = Value.map _) | exact (rfl : _ = Value.pointer _) | exact (rfl : _ = Value.string _) | exact (rfl : _ = Value.tuple _) | exact rfl) | ((with_reducible apply w_as); first | exact (rfl : _ = Value.int _ _) | exact (rfl : _ = Value.bool _) | exact (rfl : _ = Value.slice _ _ _) | exact (rfl : _ = Value.map _) | exact (rfl : _ = Value.pointer _) | exact (rfl : _ = Value.string _) | exact (rfl : _ = Value.tuple _) | exact rfl) | ((with_reducible apply w_ext); exact rfl; exact rfl) | ((with_reducible apply w_not); exact rfl) | ((with_reducible apply w_nc); exact rfl) | ((with_reducible apply w_lss); exact rfl; exact rfl) | ((with_reducible apply w_gtr); exact rfl; exact rfl) | ((with_reducible apply w_geq); exact rfl; exact rfl) | ((with_reducible apply w_eql); exact rfl; exact rfl) | ((with_reducible apply w_neq); exact rfl; exact rfl) | ((with_reducible apply w_seql); exact rfl; exact rfl) | ((with_reducible apply w_sneq); exact rfl; exact rfl) | ((with_reducible apply w_beql (ht := Try.underlying4)); exact rfl; exact rfl) | ((with_reducible apply w_bneq (ht := Try.underlying4)); exact rfl; exact rfl) | ((with_reducible apply w_lens (ht := Try.underlying22)); exact rfl) | ((with_reducible apply w_lens (ht := Try.underlying23)); exact rfl) | ((with_reducible apply w_lens (ht := Try.underlying39)); exact rfl) | ((with_reducible apply w_lens (ht := Try.underlying40)); exact rfl) | ((with_reducible apply w_lens (ht := Try.underlying47)); exact rfl) | ((with_reducible apply w_lens (ht := Try.underlying48)); exact rfl) | ((with_reducible apply w_lenstr (ht := Try.underlying9)); exact rfl)))
      refine wl_val (ex_lookup app1.2 Try.underlying61 Try.underlying9 (zeroT w1) rfl rfl) ?_
      refine wl_lay65 (t := (mget m' s).getD zT) rfl (fun v => rfl) rfl ?_
      rw [htl]
      (refine sq_nil ?_)
      generalize htt : tl m s = t at hsm htl ⊢
      have hT : ∀ cs, (w1.alloc (.cells cs 65)).heap[w1.heap.size]? = some (.cells cs 65 (0, 0)) := fun cs => (heap_alloc w1 _).1
      have kT : ∀ o i, i < w1.heap.size → (w1.alloc o).heap[i]? = w1.heap[i]? := fun o => (heap_alloc w1 o).2
      refine wp_seq_k fun K hK => ?_
      have fin : ∀ (f' : Nat → Value) (bf : Nat), bf < 18446744073709551616 → bf = befOf t val → f' 0 = .pointer (some ⟨A, 0, none⟩) → f' 5 = .map (some w.heap.size) → f' 6 = .string s → f' 7 = .int .u64 val → f' 8 = .pointer (some ⟨w1.heap.size, 0, none⟩) → f' 13 = .pointer (some ⟨w.heap.size + 1, 0, none⟩) →
          K (Fr 56 f') (w1.alloc (.cells #[.int .u64 bf, .int .u64 t.taken, .int .u64 t.applied] 65)) := by
        intro f' bf hbf hbfe f0 f5 f6 f7 f8 f13
        refine hK _ _ ?_
        obtain ⟨g', rfl⟩ : ∃ g', f' = upd (upd (upd (upd (upd (upd g' 0 (.pointer (some ⟨A, 0, none⟩))) 5 (.map (some w.heap.size))) 6 (.string s)) 7 (.int .u64 val)) 8 (.pointer (some ⟨w1.heap.size, 0, none⟩))) 13 (.pointer (some ⟨w.heap.size + 1, 0, none⟩)) :=
          ⟨f', by rw [← upd_id f0, ← upd_id f5, ← upd_id f6, ← upd_id f7, ← upd_id f8, ← upd_id f13]⟩
        clear f0 f5 f6 f7 f8 f13
        refine sq_region ?_
        (repeat (first | ((with_reducible apply w_mv); first | exact (rfl : _ = Value.int _ _) | exact (rfl : _ = Value.bool _) | exact (rfl : _ = Value.slice _ _ _) | exact (rfl : _ = Value.map _) | exact (rfl : _ = Value.pointer _) | exact (rfl : _ = Value.string _) | exact (rfl : _ = Value.tuple _) | exact rfl) | ((with_reducible apply w_as); first | exact (rfl : _ = Value.int _ _) | exact (rfl : _ = Value.bool _) | exact (rfl : _ = Value.slice _ _ _) | exact (rfl : _ = Value.map _) | exact (rfl : _ = Value.pointer _) | exact (rfl : _ = Value.string _) | exact (rfl : _ = Value.tuple _) | exact rfl) | ((with_reducible apply w_ext); exact rfl; exact rfl) | ((with_reducible apply w_not); exact rfl) | ((with_reducible apply w_nc); exact rfl) | ((with_reducible apply w_lss); exact rfl; exact rfl) | ((with_reducible apply w_gtr); exact rfl; exact rfl) | ((with_reducible apply w_geq); exact rfl; exact rfl) | ((with_reducible apply w_eql); exact rfl; exact rfl) | ((with_reducible apply w_neq); exact rfl; exact rfl) | ((with_reducible apply w_seql); exact rfl; exact rfl) | ((with_reducible apply w_sneq); exact rfl; exact rfl) | ((with_reducible apply w_beql (ht := Try.underlying4)); exact rfl; exact rfl) | ((with_reducible apply w_bneq (ht := Try.underlying4)); exact rfl; exact rfl) | ((with_reducible apply w_lens (ht := Try.underlying22)); exact rfl) | ((with_reducible apply w_lens (ht := Try.underlying23)); exact rfl) | ((with_reducible apply w_lens (ht := Try.underlying39)); exact rfl) | ((with_reducible apply w_lens (ht := Try.underlying40)); exact rfl) | ((with_reducible apply w_lens (ht := Try.underlying47)); exact rfl) | ((with_reducible apply w_lens (ht := Try.underlying48)); exact rfl) | ((with_reducible apply w_lenstr (ht := Try.underlying9)); exact rfl)))
        refine wl_val (ex_f65 (by decide) rfl) ?_
        refine wl_val (ex_load Try.underlying29 rfl rfl (cell3_0 (hT _))) ?_
        refine wl_val (ex_minn rfl rfl) ?_
        refine wl_val (ex_subu (c := ((waitOf t val : Nat) : Int)) rfl rfl (by unfold waitOf; rw [← hbfe]; omega) (by unfold waitOf; omega)) ?_
        refine wl_mapUpdate (val := waitOf t val) (wm1.of_block (kT _ _ (by omega))) Try.underlying28 Try.underlying9 rfl rfl rfl fun w3 wm3 hg3 hs3 => ?_
        (refine sq_nil ?_)
        have sz3 : w3.heap.size = w1.heap.size + 1 := by rw [hs3]; simp
        have k3 : ∀ i, i < w1.heap.size → i ≠ w.heap.size → w3.heap[i]? = w1.heap[i]? := fun i hi hne => (hg3.block i (by simp; omega) (by simpa using hne)).trans (kT _ i hi)
        have hT3 : w3.heap[w1.heap.size]? = some (.cells #[.int .u64 bf, .int .u64 t.taken, .int .u64 t.applied] 65 (0, 0)) := (hg3.block _ (by simp) (by simp; omega)).trans (hT _)
        have kp3 : Kp w.heap.size [M] w w3 := (kp1.alloc (by omega) _).grown hg3 (by simp; omega) (Or.inl (Nat.le_refl _))
        refine sq_region ?_
        refine wl_val (ex_f65 (by decide) rfl) ?_
        refine wl_val (ex_load Try.underlying29 rfl rfl (cell3_1 hT3)) ?_
        refine wl_val (ex_addu (c := ((t.taken + 1 : Nat) : Int)) rfl rfl (by omega) (by omega)) ?_
        refine wl_val (ex_f65 (by decide) rfl) ?_
        refine wl_unit (ex_store (v := .int .u64 ((t.taken + 1 : Nat) : Int)) size29 rfl rfl rfl hT3 (by simp)) ?_
        (refine sq_nil ?_)
        generalize hw4 : setBlock w3 w1.heap.size (.cells (#[.int .u64 bf, .int .u64 t.taken, .int .u64 t.applied].setIfInBounds 1 (.int .u64 ((t.taken + 1 : Nat) : Int))) 65 (0, 0)) = w4
        have sz4 : w4.heap.size = w1.heap.size + 1 := by rw [← hw4, size_setBlock, sz3]
        have hT4 : w4.heap[w1.heap.size]? = some (.cells #[.int .u64 bf, .int .u64 ((t.taken + 1 : Nat) : Int), .int .u64 t.applied] 65 (0, 0)) := by rw [← hw4, heap_setBlock (by omega)]; simp
        have k4 : ∀ i, i ≠ w1.heap.size → w4.heap[i]? = w3.heap[i]? := fun i hi => by rw [← hw4, heap_setBlock (by omega), if_neg hi]
        have kp4 : Kp w.heap.size [M] w w4 := by rw [← hw4]; exact kp3.setBlock (Or.inl (by omega)) _
        clear hw4
        have app4 : App w4 A M m' := app1.keep ((k4 A (by omega)).trans (k3 A (by omega) (by omega))) ((k4 M (by omega)).trans (k3 M (by omega) (by omega)))
        refine region_tail (l1 := [_, _, _, _, _, _]) (l2 := [_]) rfl mixed (by kernel_rfl) ?_
        (repeat (first | ((with_reducible apply s_mv); first | exact (rfl : _ = Value.int _ _) | exact (rfl : _ = Value.bool _) | exact (rfl : _ = Value.slice _ _ _) | exact (rfl : _ = Value.map _) | exact (rfl : _ = Value.pointer _) | exact (rfl : _ = Value.string _) | exact (rfl : _ = Value.tuple _) | exact rfl) | ((with_reducible apply s_as); first | exact (rfl : _ = Value.int _ _) | exact (rfl : _ = Value.bool _) | exact (rfl : _ = Value.slice _ _ _) | exact (rfl : _ = Value.map _) | exact (rfl : _ = Value.pointer _) | exact (rfl : _ = Value.string _) | exact (rfl : _ = Value.tuple _) | exact rfl) | ((with_reducible apply s_ext); exact rfl; exact rfl) | ((with_reducible apply s_not); exact rfl) | ((with_reducible apply s_nc); exact rfl) | ((with_reducible apply s_lss); exact rfl; exact rfl) | ((with_reducible apply s_gtr); exact rfl; exact rfl) | ((with_reducible apply s_geq); exact rfl; exact rfl) | ((with_reducible apply s_eql); exact rfl; exact rfl) | ((with_reducible apply s_neq); exact rfl; exact rfl) | ((with_reducible apply s_seql); exact rfl; exact rfl) | ((with_reducible apply s_sneq); exact rfl; exact rfl) | ((with_reducible apply s_beql (ht := Try.underlying4)); exact rfl; exact rfl) | ((with_reducible apply s_bneq (ht := Try.underlying4)); exact rfl; exact rfl) | ((with_reducible apply s_lens (ht := Try.underlying22)); exact rfl) | ((with_reducible apply s_lens (ht := Try.underlying23)); exact rfl) | ((with_reducible apply s_lens (ht := Try.underlying39)); exact rfl) | ((with_reducible apply s_lens (ht := Try.underlying40)); exact rfl) | ((with_reducible apply s_lens (ht := Try.underlying47)); exact rfl) | ((with_reducible apply s_lens (ht := Try.underlying48)); exact rfl) | ((with_reducible apply s_lenstr (ht := Try.underlying9)); exact rfl)))
        refine sl_val (ex_f63 rfl) ?_
        refine sl_val (ex_load Try.underlying61 rfl rfl app4.1) ?_
        (repeat (first | ((with_reducible apply s_mv); first | exact (rfl : _ = Value.int _ _) | exact (rfl : _ = Value.bool _) | exact (rfl : _ = Value.slice _ _ _) | exact (rfl : _ = Value.map _) | exact (rfl : _ = Value.pointer _) | exact (rfl : _ = Value.string _) | exact (rfl : _ = Value.tuple _) | exact rfl) | ((with_reducible apply s_as); first | exact (rfl : _ = Value.int _ _) | exact (rfl : _ = Value.bool _) | exact (rfl : _ = Value.slice _ _ _) | exact (rfl : _ = Value.map _) | exact (rfl : _ = Value.pointer _) | exact (rfl : _ = Value.string _) | exact (rfl : _ = Value.tuple _) | exact rfl) | ((with_reducible apply s_ext); exact rfl; exact rfl) | ((with_reducible apply s_not); exact rfl) | ((with_reducible apply s_nc); exact rfl) | ((with_reducible apply s_lss); exact rfl; exact rfl) | ((with_reducible apply s_gtr); exact rfl; exact rfl) | ((with_reducible apply s_geq); exact rfl; exact rfl) | ((with_reducible apply s_eql); exact rfl; exact rfl) | ((with_reducible apply s_neq); exact rfl; exact rfl) | ((with_reducible apply s_seql); exact rfl; exact rfl) | ((with_reducible apply s_sneq); exact rfl; exact rfl) | ((with_reducible apply s_beql (ht := Try.underlying4)); exact rfl; exact rfl) | ((with_reducible apply s_bneq (ht := Try.underlying4)); exact rfl; exact rfl) | ((with_reducible apply s_lens (ht := Try.underlying22)); exact rfl) | ((with_reducible apply s_lens (ht := Try.underlying23)); exact rfl) | ((with_reducible apply s_lens (ht := Try.underlying39)); exact rfl) | ((with_reducible apply s_lens (ht := Try.underlying40)); exact rfl) | ((with_reducible apply s_lens (ht := Try.underlying47)); exact rfl) | ((with_reducible apply s_lens (ht := Try.underlying48)); exact rfl) | ((with_reducible apply s_lenstr (ht := Try.underlying9)); exact rfl)))
        refine sl_val (ex_load65 rfl hT4) ?_
        refine wpStill_nil ?_
        refine wl_mapUpdate (enc := encT) (m := m') (val := stepOf t val) app4.2 Try.underlying61 Try.underlying9 rfl rfl (by rw [hbfe]; rfl) fun w5 wm5 hg5 hs5 => ?_
        have k5 : ∀ i, i < w1.heap.size → i ≠ M → i ≠ w.heap.size → w5.heap[i]? = w1.heap[i]? := fun i hi h1 h2 => (hg5.block i (by show i < w4.heap.size; omega) (by simpa using h1)).trans ((k4 i (by omega)).trans (k3 i hi h2))
        have sz5 : w5.heap.size = w1.heap.size + 1 := hs5.trans sz4
        refine wpList_nil (xb_n (xt_n ⟨left.filter fun q => !decide (q.1 = s), ⟨_, mput wm s (waitOf t val), mput m' s (stepOf t val), rfl, rfl, rfl, rfl, ?_, ?_, ?_, ?_, ?_, fun k => ?_, fun k => ?_⟩, ?_⟩))
        · exact hr1.of_blocks (k5 D (by omega) hDM (by omega)) (k5 _ (by omega) (by omega) (by omega))
        · exact (wm3.of_block (k4 _ (by omega))).of_block (hg5.block _ (by show _ < w4.heap.size; omega) (by simp; omega))
        · exact app1.with_map (k5 A (by omega) hAM (by omega)) wm5
        · exact kp4.drew.grown hg5 (by show _ ≤ w4.heap.size; omega) (Or.inr (by simp))
        · omega
        · rw [mget_mput, mget_filter, e1 k]
          by_cases hk : s = k
          · subst hk; simp [hdk, htt]
          · simp [hk]
        · rw [mget_mput, mget_filter, e2 k]
          by_cases hk : s = k
          · subst hk; simp [hdk, htt]
          · simp [hk]
        · refine List.length_filter_lt_length_iff_exists.2 ⟨(s, val), hmem, by simp⟩
      refine sq_region ?_
      (repeat (first | ((with_reducible apply w_mv); first | exact (rfl : _ = Value.int _ _) | exact (rfl : _ = Value.bool _) | exact (rfl : _ = Value.slice _ _ _) | exact (rfl : _ = Value.map _) | exact (rfl : _ = Value.pointer _) | exact (rfl : _ = Value.string _) | exact (rfl : _ = Value.tuple _) | exact rfl) | ((with_reducible apply w_as); first | exact (rfl : _ = Value.int _ _) | exact (rfl : _ = Value.bool _) | exact (rfl : _ = Value.slice _ _ _) | exact (rfl : _ = Value.map _) | exact (rfl : _ = Value.pointer _) | exact (rfl : _ = Value.string _) | exact (rfl : _ = Value.tuple _) | exact rfl) | ((with_reducible apply w_ext); exact rfl; exact rfl) | ((with_reducible apply w_not); exact rfl) | ((with_reducible apply w_nc); exact rfl) | ((with_reducible apply w_lss); exact rfl; exact rfl) | ((with_reducible apply w_gtr); exact rfl; exact rfl) | ((with_reducible apply w_geq); exact rfl; exact rfl) | ((with_reducible apply w_eql); exact rfl; exact rfl) | ((with_reducible apply w_neq); exact rfl; exact rfl) | ((with_reducible apply w_seql); exact rfl; exact rfl) | ((with_reducible apply w_sneq); exact rfl; exact rfl) | ((with_reducible apply w_beql (ht := Try.underlying4)); exact rfl; exact rfl) | ((with_reducible apply w_bneq (ht := Try.underlying4)); exact rfl; exact rfl) | ((with_reducible apply w_lens (ht := Try.underlying22)); exact rfl) | ((with_reducible apply w_lens (ht := Try.underlying23)); exact rfl) | ((with_reducible apply w_lens (ht := Try.underlying39)); exact rfl) | ((with_reducible apply w_lens (ht := Try.underlying40)); exact rfl) | ((with_reducible apply w_lens (ht := Try.underlying47)); exact rfl) | ((with_reducible apply w_lens (ht := Try.underlying48)); exact rfl) | ((with_reducible apply w_lenstr (ht := Try.underlying9)); exact rfl)))
      refine wl_val (ex_f65 (by decide) rfl) ?_
      refine wl_val (ex_load Try.underlying29 rfl rfl (cell3_1 (hT _))) ?_
      (repeat (first | ((with_reducible apply w_mv); first | exact (rfl : _ = Value.int _ _) | exact (rfl : _ = Value.bool _) | exact (rfl : _ = Value.slice _ _ _) | exact (rfl : _ = Value.map _) | exact (rfl : _ = Value.pointer _) | exact (rfl : _ = Value.string _) | exact (rfl : _ = Value.tuple _) | exact rfl) | ((with_reducible apply w_as); first | exact (rfl : _ = Value.int _ _) | exact (rfl : _ = Value.bool _) | exact (rfl : _ = Value.slice _ _ _) | exact (rfl : _ = Value.map _) | exact (rfl : _ = Value.pointer _) | exact (rfl : _ = Value.string _) | exact (rfl : _ = Value.tuple _) | exact rfl) | ((with_reducible apply w_ext); exact rfl; exact rfl) | ((with_reducible apply w_not); exact rfl) | ((with_reducible apply w_nc); exact rfl) | ((with_reducible apply w_lss); exact rfl; exact rfl) | ((with_reducible apply w_gtr); exact rfl; exact rfl) | ((with_reducible apply w_geq); exact rfl; exact rfl) | ((with_reducible apply w_eql); exact rfl; exact rfl) | ((with_reducible apply w_neq); exact rfl; exact rfl) | ((with_reducible apply w_seql); exact rfl; exact rfl) | ((with_reducible apply w_sneq); exact rfl; exact rfl) | ((with_reducible apply w_beql (ht := Try.underlying4)); exact rfl; exact rfl) | ((with_reducible apply w_bneq (ht := Try.underlying4)); exact rfl; exact rfl) | ((with_reducible apply w_lens (ht := Try.underlying22)); exact rfl) | ((with_reducible apply w_lens (ht := Try.underlying23)); exact rfl) | ((with_reducible apply w_lens (ht := Try.underlying39)); exact rfl) | ((with_reducible apply w_lens (ht := Try.underlying40)); exact rfl) | ((with_reducible apply w_lens (ht := Try.underlying47)); exact rfl) | ((with_reducible apply w_lens (ht := Try.underlying48)); exact rfl) | ((with_reducible apply w_lenstr (ht := Try.underlying9)); exact rfl)))
      (refine sq_nil ?_)
      refine cond_s rfl (fun hp => ?_) (fun hp => ?_)
      · have hlt : t.taken < val := by have := of_decide_eq_true hp; omega
        refine wp_region_lit ?_
        refine wl_val (ex_f65 (by decide) rfl) ?_
        refine wl_val (ex_load Try.underlying29 rfl rfl (cell3_0 (hT _))) ?_
        (repeat (first | ((with_reducible apply w_mv); first | exact (rfl : _ = Value.int _ _) | exact (rfl : _ = Value.bool _) | exact (rfl : _ = Value.slice _ _ _) | exact (rfl : _ = Value.map _) | exact (rfl : _ = Value.pointer _) | exact (rfl : _ = Value.string _) | exact (rfl : _ = Value.tuple _) | exact rfl) | ((with_reducible apply w_as); first | exact (rfl : _ = Value.int _ _) | exact (rfl : _ = Value.bool _) | exact (rfl : _ = Value.slice _ _ _) | exact (rfl : _ = Value.map _) | exact (rfl : _ = Value.pointer _) | exact (rfl : _ = Value.string _) | exact (rfl : _ = Value.tuple _) | exact rfl) | ((with_reducible apply w_ext); exact rfl; exact rfl) | ((with_reducible apply w_not); exact rfl) | ((with_reducible apply w_nc); exact rfl) | ((with_reducible apply w_lss); exact rfl; exact rfl) | ((with_reducible apply w_gtr); exact rfl; exact rfl) | ((with_reducible apply w_geq); exact rfl; exact rfl) | ((with_reducible apply w_eql); exact rfl; exact rfl) | ((with_reducible apply w_neq); exact rfl; exact rfl) | ((with_reducible apply w_seql); exact rfl; exact rfl) | ((with_reducible apply w_sneq); exact rfl; exact rfl) | ((with_reducible apply w_beql (ht := Try.underlying4)); exact rfl; exact rfl) | ((with_reducible apply w_bneq (ht := Try.underlying4)); exact rfl; exact rfl) | ((with_reducible apply w_lens (ht := Try.underlying22)); exact rfl) | ((with_reducible apply w_lens (ht := Try.underlying23)); exact rfl) | ((with_reducible apply w_lens (ht := Try.underlying39)); exact rfl) | ((with_reducible apply w_lens (ht := Try.underlying40)); exact rfl) | ((with_reducible apply w_lens (ht := Try.underlying47)); exact rfl) | ((with_reducible apply w_lens (ht := Try.underlying48)); exact rfl) | ((with_reducible apply w_lenstr (ht := Try.underlying9)); exact rfl)))
        refine wl_val (ex_f65 (by decide) rfl) ?_
        refine wl_val (ex_load Try.underlying29 rfl rfl (cell3_1 (hT _))) ?_
        refine wl_val (ex_subu (c := ((val - t.taken : Nat) : Int)) rfl rfl (by omega) (by omega)) ?_
        refine wl_val (ex_maxn rfl rfl) ?_
        refine wl_val (ex_f65 (by decide) rfl) ?_
        refine wl_unit (ex_store (v := .int .u64 ((max t.before (val - t.taken) : Nat) : Int)) size29 rfl rfl rfl (hT _) (by simp)) ?_
        rw [setBlock_alloc]
        refine wpList_nil (xt_n (fin _ (max t.before (val - t.taken)) (by omega) (by unfold befOf; rw [if_pos hlt]) rfl rfl rfl rfl rfl rfl))
      · have hlt : ¬ t.taken < val := by have := of_decide_eq_false hp; omega
        exact wp_skip (xt_n (fin _ t.before (by omega) (by unfold befOf; rw [if_neg hlt]) rfl rfl rfl rfl rfl rfl))
end Go.Proofs.Qxb6600002a
