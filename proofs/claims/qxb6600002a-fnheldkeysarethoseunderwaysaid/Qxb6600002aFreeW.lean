/-
  runFree: what lies in memory at each round; heldMatches.
-/
import Derived.Test.Qxb6600002aFreeInv
namespace Go.Proofs.Qxb6600002a
set_option linter.unusedSimpArgs false
set_option linter.unusedVariables false
open Go.MapKept Go.ChangeMaps Go.RowKit

/-- A part of a code. -/
def part_ : Code → List Nat → Code
  | c, [] => c
  | .seq a _, 0 :: p => part_ a p
  | .seq _ b, 1 :: p => part_ b p
  | .block _ c, 2 :: p => part_ c p
  | .loop c, 3 :: p => part_ c p
  | .cond _ a _, 4 :: p => part_ a p
  | .cond _ _ b, 5 :: p => part_ b p
  | c, _ => c

theorem zeroI8 (w : World) : (zeroValue 50).run Try.prog w = .ok (.agg (arr 8 fun _ => .int .i64 0)) w := by kernel_rfl
theorem zeroU8 (w : World) : (zeroValue 51).run Try.prog w = .ok (.agg (arr 8 fun _ => .int .u64 0)) w := by kernel_rfl
theorem sizeI8 : (Try.prog.info? 50).map (·.size) = some 8 := by kernel_rfl

/-! ### heldMatches -/
set_option maxHeartbeats 2000000 in
theorem heldMatches_any (A M : Nat) (m : List (ByteArray × Tl)) (pc : Nat → Nat) (hpc : ∀ k, k < 8 → pc k ≤ 4096) (w : World) (h : App w A M m) (hh : ∀ k, k < 8 → (mget m (kn k)).isSome = decide (0 < pc k)) (hc : m.length = ((List.range 8).filter fun i => decide (0 < pc i)).length) :
    Calls Try.prog 28 #[.pointer (some ⟨A, 0, none⟩), .agg (arr 8 fun k => .int .i64 (pc k : Nat))] w fun e w' => e = .returned (.bool true) ∧ Kp w.heap.size [] w w' := by
  have hcs : ∀ k, ((List.range (k + 1)).filter fun i => decide (0 < pc i)).length = ((List.range k).filter fun i => decide (0 < pc i)).length + if 0 < pc k then 1 else 0 := by
    intro k
    rw [List.range_succ, List.filter_append]
    by_cases h : 0 < pc k <;> simp [h]
  have hcl : ∀ k, ((List.range k).filter fun i => decide (0 < pc i)).length ≤ k := by
    intro k
    have := List.length_filter_le (fun i => decide (0 < pc i)) (List.range k)
    simpa using this
  generalize hq : (fun k => ((List.range k).filter fun i => decide (0 < pc i)).length) = cn
  have hcn : ∀ k, ((List.range k).filter fun i => decide (0 < pc i)).length = cn k := fun k => by rw [← hq]
  simp only [hcn] at hcs hcl hc
  clear hq hcn
  have hc0 : cn 0 = 0 := by have := hcl 0; omega
  have hA := h.ltA
  have hM := h.2.lt
  refine enter2 Try.func28 rfl Try.ntmps28 (by decide) fun g => ?_
  refine sq_region ?_
  refine wl_val (ex_box (v := .agg (arr 8 fun k => .int .i64 (pc k : Nat))) rfl) ?_
  (repeat (first | ((with_reducible apply w_mv); first | exact (rfl : _ = Value.int _ _) | exact (rfl : _ = Value.bool _) | exact (rfl : _ = Value.slice _ _ _) | exact (rfl : _ = Value.map _) | exact (rfl : _ = Value.pointer _) | exact (rfl : _ = Value.string _) | exact (rfl : _ = Value.tuple _) | exact rfl) | ((with_reducible apply w_as); first | exact (rfl : _ = Value.int _ _) | exact (rfl : _ = Value.bool _) | exact (rfl : _ = Value.slice _ _ _) | exact (rfl : _ = Value.map _) | exact (rfl : _ = Value.pointer _) | exact (rfl : _ = Value.string _) | exact (rfl : _ = Value.tuple _) | exact rfl) | ((with_reducible apply w_ext); exact rfl; exact rfl) | ((with_reducible apply w_not); exact rfl) | ((with_reducible apply w_nc); exact rfl) | ((with_reducible apply w_lss); exact rfl; exact rfl) | ((with_reducible apply w_gtr); exact rfl; exact rfl) | ((with_reducible apply w_geq); exact rfl; exact rfl) | ((with_reducible apply w_eql); exact rfl; exact rfl) | ((with_reducible apply w_neq); exact rfl; exact rfl) | ((with_reducible apply w_seql); exact rfl; exact rfl) | ((with_reducible apply w_sneq); exact rfl; exact rfl) | ((with_reducible apply w_beql (ht := Try.underlying4)); exact rfl; exact rfl) | ((with_reducible apply w_bneq (ht := Try.underlying4)); exact rfl; exact rfl) | ((with_reducible apply w_lens (ht := Try.underlying22)); exact rfl) | ((with_reducible apply w_lens (ht := Try.underlying23)); exact rfl) | ((with_reducible apply w_lens (ht := Try.underlying39)); exact rfl) | ((with_reducible apply w_lens (ht := Try.underlying40)); exact rfl) | ((with_reducible apply w_lens (ht := Try.underlying47)); exact rfl) | ((with_reducible apply w_lens (ht := Try.underlying48)); exact rfl) | ((with_reducible apply w_lenstr (ht := Try.underlying9)); exact rfl)))
  (refine sq_nil ?_)
  generalize hwa : w.alloc (.cells (Value.cells (.agg (arr 8 fun k => .int .i64 (pc k : Nat)))) 50) = wa
  have sza : wa.heap.size = w.heap.size + 1 := by rw [← hwa]; simp
  have kpa : Kp w.heap.size [] w wa := by rw [← hwa]; exact (Kp.refl _ _ w).alloc (Nat.le_refl _) _
  have arra : Arr wa w.heap.size 8 50 (fun k => .int .i64 (pc k : Nat)) := by
    unfold Arr
    rw [← hwa]
    exact (heap_alloc w _).1
  clear hwa
  refine sq_region ?_
  (repeat (first | ((with_reducible apply w_mv); first | exact (rfl : _ = Value.int _ _) | exact (rfl : _ = Value.bool _) | exact (rfl : _ = Value.slice _ _ _) | exact (rfl : _ = Value.map _) | exact (rfl : _ = Value.pointer _) | exact (rfl : _ = Value.string _) | exact (rfl : _ = Value.tuple _) | exact rfl) | ((with_reducible apply w_as); first | exact (rfl : _ = Value.int _ _) | exact (rfl : _ = Value.bool _) | exact (rfl : _ = Value.slice _ _ _) | exact (rfl : _ = Value.map _) | exact (rfl : _ = Value.pointer _) | exact (rfl : _ = Value.string _) | exact (rfl : _ = Value.tuple _) | exact rfl) | ((with_reducible apply w_ext); exact rfl; exact rfl) | ((with_reducible apply w_not); exact rfl) | ((with_reducible apply w_nc); exact rfl) | ((with_reducible apply w_lss); exact rfl; exact rfl) | ((with_reducible apply w_gtr); exact rfl; exact rfl) | ((with_reducible apply w_geq); exact rfl; exact rfl) | ((with_reducible apply w_eql); exact rfl; exact rfl) | ((with_reducible apply w_neq); exact rfl; exact rfl) | ((with_reducible apply w_seql); exact rfl; exact rfl) | ((with_reducible apply w_sneq); exact rfl; exact rfl) | ((with_reducible apply w_beql (ht := Try.underlying4)); exact rfl; exact rfl) | ((with_reducible apply w_bneq (ht := Try.underlying4)); exact rfl; exact rfl) | ((with_reducible apply w_lens (ht := Try.underlying22)); exact rfl) | ((with_reducible apply w_lens (ht := Try.underlying23)); exact rfl) | ((with_reducible apply w_lens (ht := Try.underlying39)); exact rfl) | ((with_reducible apply w_lens (ht := Try.underlying40)); exact rfl) | ((with_reducible apply w_lens (ht := Try.underlying47)); exact rfl) | ((with_reducible apply w_lens (ht := Try.underlying48)); exact rfl) | ((with_reducible apply w_lenstr (ht := Try.underlying9)); exact rfl)))
  (refine sq_nil ?_)
  refine wp_seq (sq_region ?_)
  (repeat (first | ((with_reducible apply w_mv); first | exact (rfl : _ = Value.int _ _) | exact (rfl : _ = Value.bool _) | exact (rfl : _ = Value.slice _ _ _) | exact (rfl : _ = Value.map _) | exact (rfl : _ = Value.pointer _) | exact (rfl : _ = Value.string _) | exact (rfl : _ = Value.tuple _) | exact rfl) | ((with_reducible apply w_as); first | exact (rfl : _ = Value.int _ _) | exact (rfl : _ = Value.bool _) | exact (rfl : _ = Value.slice _ _ _) | exact (rfl : _ = Value.map _) | exact (rfl : _ = Value.pointer _) | exact (rfl : _ = Value.string _) | exact (rfl : _ = Value.tuple _) | exact rfl) | ((with_reducible apply w_ext); exact rfl; exact rfl) | ((with_reducible apply w_not); exact rfl) | ((with_reducible apply w_nc); exact rfl) | ((with_reducible apply w_lss); exact rfl; exact rfl) | ((with_reducible apply w_gtr); exact rfl; exact rfl) | ((with_reducible apply w_geq); exact rfl; exact rfl) | ((with_reducible apply w_eql); exact rfl; exact rfl) | ((with_reducible apply w_neq); exact rfl; exact rfl) | ((with_reducible apply w_seql); exact rfl; exact rfl) | ((with_reducible apply w_sneq); exact rfl; exact rfl) | ((with_reducible apply w_beql (ht := Try.underlying4)); exact rfl; exact rfl) | ((with_reducible apply w_bneq (ht := Try.underlying4)); exact rfl; exact rfl) | ((with_reducible apply w_lens (ht := Try.underlying22)); exact rfl) | ((with_reducible apply w_lens (ht := Try.underlying23)); exact rfl) | ((with_reducible apply w_lens (ht := Try.underlying39)); exact rfl) | ((with_reducible apply w_lens (ht := Try.underlying40)); exact rfl) | ((with_reducible apply w_lens (ht := Try.underlying47)); exact rfl) | ((with_reducible apply w_lens (ht := Try.underlying48)); exact rfl) | ((with_reducible apply w_lenstr (ht := Try.underlying9)); exact rfl)))
  (refine sq_nil ?_)
  refine for8 (fun k f w1 => f 0 = .pointer (some ⟨A, 0, none⟩) ∧ f 3 = .pointer (some ⟨w.heap.size, 0, none⟩) ∧ f 5 = .int .i64 (cn k : Nat) ∧ Kp (w.heap.size + 1) [] wa w1) rfl (by decide) rfl ⟨rfl, rfl, by rw [hc0]; rfl, Kp.refl _ _ _⟩ ?_ ?_ ?_
  · rintro k f f' w1 ha ⟨h1, h2, h3, rest⟩
    exact ⟨(ha 0 rfl).trans h1, (ha 3 rfl).trans h2, (ha 5 rfl).trans h3, rest⟩
  · rintro k f w1 R hk8 fk ⟨f0, f3, f5, kp1⟩ hR hret
    obtain ⟨g, rfl⟩ : ∃ g, f = upd (upd (upd (upd g 0 (.pointer (some ⟨A, 0, none⟩))) 3 (.pointer (some ⟨w.heap.size, 0, none⟩))) 5 (.int .i64 (cn k : Nat))) 6 (.int .i64 (k : Int)) := ⟨f, by rw [← upd_id f0, ← upd_id f3, ← upd_id f5, ← upd_id fk]⟩
    clear f0 f3 f5 fk
    have hck := hcs k
    have hcl := hcl k
    have app1 : App w1 A M m := h.keep ((kp1.block A (by omega) (by simp)).trans (kpa.block A hA (by simp))) ((kp1.block M (by omega) (by simp)).trans (kpa.block M hM (by simp)))
    have c1 : w1.cell? ⟨w.heap.size, k, none⟩ = some (.int .i64 (pc k : Nat)) := (arra.of_block (kp1.block _ (by omega) (by simp))).cell hk8
    have hhk := hh k hk8
    refine sq_region ?_
    (repeat (first | ((with_reducible apply w_mv); first | exact (rfl : _ = Value.int _ _) | exact (rfl : _ = Value.bool _) | exact (rfl : _ = Value.slice _ _ _) | exact (rfl : _ = Value.map _) | exact (rfl : _ = Value.pointer _) | exact (rfl : _ = Value.string _) | exact (rfl : _ = Value.tuple _) | exact rfl) | ((with_reducible apply w_as); first | exact (rfl : _ = Value.int _ _) | exact (rfl : _ = Value.bool _) | exact (rfl : _ = Value.slice _ _ _) | exact (rfl : _ = Value.map _) | exact (rfl : _ = Value.pointer _) | exact (rfl : _ = Value.string _) | exact (rfl : _ = Value.tuple _) | exact rfl) | ((with_reducible apply w_ext); exact rfl; exact rfl) | ((with_reducible apply w_not); exact rfl) | ((with_reducible apply w_nc); exact rfl) | ((with_reducible apply w_lss); exact rfl; exact rfl) | ((with_reducible apply w_gtr); exact rfl; exact rfl) | ((with_reducible apply w_geq); exact rfl; exact rfl) | ((with_reducible apply w_eql); exact rfl; exact rfl) | ((with_reducible apply w_neq); exact rfl; exact rfl) | ((with_reducible apply w_seql); exact rfl; exact rfl) | ((with_reducible apply w_sneq); exact rfl; exact rfl) | ((with_reducible apply w_beql (ht := Try.underlying4)); exact rfl; exact rfl) | ((with_reducible apply w_bneq (ht := Try.underlying4)); exact rfl; exact rfl) | ((with_reducible apply w_lens (ht := Try.underlying22)); exact rfl) | ((with_reducible apply w_lens (ht := Try.underlying23)); exact rfl) | ((with_reducible apply w_lens (ht := Try.underlying39)); exact rfl) | ((with_reducible apply w_lens (ht := Try.underlying40)); exact rfl) | ((with_reducible apply w_lens (ht := Try.underlying47)); exact rfl) | ((with_reducible apply w_lens (ht := Try.underlying48)); exact rfl) | ((with_reducible apply w_lenstr (ht := Try.underlying9)); exact rfl)))
    refine wl_val (ex_index_arr Try.underlying50 size3 rfl rfl rfl hk8) ?_
    refine wl_val (ex_load (v := .int .i64 _) Try.underlying3 rfl rfl c1) ?_
    (repeat (first | ((with_reducible apply w_mv); first | exact (rfl : _ = Value.int _ _) | exact (rfl : _ = Value.bool _) | exact (rfl : _ = Value.slice _ _ _) | exact (rfl : _ = Value.map _) | exact (rfl : _ = Value.pointer _) | exact (rfl : _ = Value.string _) | exact (rfl : _ = Value.tuple _) | exact rfl) | ((with_reducible apply w_as); first | exact (rfl : _ = Value.int _ _) | exact (rfl : _ = Value.bool _) | exact (rfl : _ = Value.slice _ _ _) | exact (rfl : _ = Value.map _) | exact (rfl : _ = Value.pointer _) | exact (rfl : _ = Value.string _) | exact (rfl : _ = Value.tuple _) | exact rfl) | ((with_reducible apply w_ext); exact rfl; exact rfl) | ((with_reducible apply w_not); exact rfl) | ((with_reducible apply w_nc); exact rfl) | ((with_reducible apply w_lss); exact rfl; exact rfl) | ((with_reducible apply w_gtr); exact rfl; exact rfl) | ((with_reducible apply w_geq); exact rfl; exact rfl) | ((with_reducible apply w_eql); exact rfl; exact rfl) | ((with_reducible apply w_neq); exact rfl; exact rfl) | ((with_reducible apply w_seql); exact rfl; exact rfl) | ((with_reducible apply w_sneq); exact rfl; exact rfl) | ((with_reducible apply w_beql (ht := Try.underlying4)); exact rfl; exact rfl) | ((with_reducible apply w_bneq (ht := Try.underlying4)); exact rfl; exact rfl) | ((with_reducible apply w_lens (ht := Try.underlying22)); exact rfl) | ((with_reducible apply w_lens (ht := Try.underlying23)); exact rfl) | ((with_reducible apply w_lens (ht := Try.underlying39)); exact rfl) | ((with_reducible apply w_lens (ht := Try.underlying40)); exact rfl) | ((with_reducible apply w_lens (ht := Try.underlying47)); exact rfl) | ((with_reducible apply w_lens (ht := Try.underlying48)); exact rfl) | ((with_reducible apply w_lenstr (ht := Try.underlying9)); exact rfl)))
    (refine sq_nil ?_)
    have e0 : decide ((pc k : Int) > 0) = decide (0 < pc k) := by
      by_cases hx : 0 < pc k
      · rw [decide_eq_true hx, decide_eq_true (by omega)]
      · rw [decide_eq_false hx, decide_eq_false (by omega)]
    rw [e0]
    refine wp_seq_k fun K hK => ?_
    have fin : ∀ f', f' 0 = .pointer (some ⟨A, 0, none⟩) → f' 3 = .pointer (some ⟨w.heap.size, 0, none⟩) → f' 5 = .int .i64 (cn (k + 1) : Nat) → f' 6 = .int .i64 (k : Int) → f' 7 = .bool (decide (0 < pc k)) → K (Fr 29 f') w1 := by
      intro f' f0 f3 f5 f6 f7
      refine hK _ _ ?_
      obtain ⟨g, rfl⟩ : ∃ g, f' = upd (upd (upd (upd (upd g 0 (.pointer (some ⟨A, 0, none⟩))) 3 (.pointer (some ⟨w.heap.size, 0, none⟩))) 5 (.int .i64 (cn (k + 1) : Nat))) 6 (.int .i64 (k : Int))) 7 (.bool (decide (0 < pc k))) := ⟨f', by rw [← upd_id f0, ← upd_id f3, ← upd_id f5, ← upd_id f6, ← upd_id f7]⟩
      clear f0 f3 f5 f6 f7
      refine sq_region ?_
      (repeat (first | ((with_reducible apply w_mv); first | exact (rfl : _ = Value.int _ _) | exact (rfl : _ = Value.bool _) | exact (rfl : _ = Value.slice _ _ _) | exact (rfl : _ = Value.map _) | exact (rfl : _ = Value.pointer _) | exact (rfl : _ = Value.string _) | exact (rfl : _ = Value.tuple _) | exact rfl) | ((with_reducible apply w_as); first | exact (rfl : _ = Value.int _ _) | exact (rfl : _ = Value.bool _) | exact (rfl : _ = Value.slice _ _ _) | exact (rfl : _ = Value.map _) | exact (rfl : _ = Value.pointer _) | exact (rfl : _ = Value.string _) | exact (rfl : _ = Value.tuple _) | exact rfl) | ((with_reducible apply w_ext); exact rfl; exact rfl) | ((with_reducible apply w_not); exact rfl) | ((with_reducible apply w_nc); exact rfl) | ((with_reducible apply w_lss); exact rfl; exact rfl) | ((with_reducible apply w_gtr); exact rfl; exact rfl) | ((with_reducible apply w_geq); exact rfl; exact rfl) | ((with_reducible apply w_eql); exact rfl; exact rfl) | ((with_reducible apply w_neq); exact rfl; exact rfl) | ((with_reducible apply w_seql); exact rfl; exact rfl) | ((with_reducible apply w_sneq); exact rfl; exact rfl) | ((with_reducible apply w_beql (ht := Try.underlying4)); exact rfl; exact rfl) | ((with_reducible apply w_bneq (ht := Try.underlying4)); exact rfl; exact rfl) | ((with_reducible apply w_lens (ht := Try.underlying22)); exact rfl) | ((with_reducible apply w_lens (ht := Try.underlying23)); exact rfl) | ((with_reducible apply w_lens (ht := Try.underlying39)); exact rfl) | ((with_reducible apply w_lens (ht := Try.underlying40)); exact rfl) | ((with_reducible apply w_lens (ht := Try.underlying47)); exact rfl) | ((with_reducible apply w_lens (ht := Try.underlying48)); exact rfl) | ((with_reducible apply w_lenstr (ht := Try.underlying9)); exact rfl)))
      refine w_call1 ok21 ((keyName_any k hk8 w1).mono ?_) rfl
      rintro e w' ⟨rfl, hw'⟩
      have hw' := hw'.symm
      subst hw'
      refine ⟨_, rfl, ?_⟩
      refine w_call2 ok15 ((holds_any A M m (kn k) w1 app1).mono ?_) rfl rfl
      rintro e w' ⟨rfl, o, rfl⟩
      refine ⟨_, rfl, ?_⟩
      (repeat (first | ((with_reducible apply w_mv); first | exact (rfl : _ = Value.int _ _) | exact (rfl : _ = Value.bool _) | exact (rfl : _ = Value.slice _ _ _) | exact (rfl : _ = Value.map _) | exact (rfl : _ = Value.pointer _) | exact (rfl : _ = Value.string _) | exact (rfl : _ = Value.tuple _) | exact rfl) | ((with_reducible apply w_as); first | exact (rfl : _ = Value.int _ _) | exact (rfl : _ = Value.bool _) | exact (rfl : _ = Value.slice _ _ _) | exact (rfl : _ = Value.map _) | exact (rfl : _ = Value.pointer _) | exact (rfl : _ = Value.string _) | exact (rfl : _ = Value.tuple _) | exact rfl) | ((with_reducible apply w_ext); exact rfl; exact rfl) | ((with_reducible apply w_not); exact rfl) | ((with_reducible apply w_nc); exact rfl) | ((with_reducible apply w_lss); exact rfl; exact rfl) | ((with_reducible apply w_gtr); exact rfl; exact rfl) | ((with_reducible apply w_geq); exact rfl; exact rfl) | ((with_reducible apply w_eql); exact rfl; exact rfl) | ((with_reducible apply w_neq); exact rfl; exact rfl) | ((with_reducible apply w_seql); exact rfl; exact rfl) | ((with_reducible apply w_sneq); exact rfl; exact rfl) | ((with_reducible apply w_beql (ht := Try.underlying4)); exact rfl; exact rfl) | ((with_reducible apply w_bneq (ht := Try.underlying4)); exact rfl; exact rfl) | ((with_reducible apply w_lens (ht := Try.underlying22)); exact rfl) | ((with_reducible apply w_lens (ht := Try.underlying23)); exact rfl) | ((with_reducible apply w_lens (ht := Try.underlying39)); exact rfl) | ((with_reducible apply w_lens (ht := Try.underlying40)); exact rfl) | ((with_reducible apply w_lens (ht := Try.underlying47)); exact rfl) | ((with_reducible apply w_lens (ht := Try.underlying48)); exact rfl) | ((with_reducible apply w_lenstr (ht := Try.underlying9)); exact rfl)))
      (refine sq_nil ?_)
      refine cond_n rfl (by rw [hhk]; simp) (wp_skip (hR _ _ rfl ⟨rfl, rfl, rfl, kp1.alloc (by have := kp1.size; omega) _⟩))
    refine sq_region ?_
    (repeat (first | ((with_reducible apply w_mv); first | exact (rfl : _ = Value.int _ _) | exact (rfl : _ = Value.bool _) | exact (rfl : _ = Value.slice _ _ _) | exact (rfl : _ = Value.map _) | exact (rfl : _ = Value.pointer _) | exact (rfl : _ = Value.string _) | exact (rfl : _ = Value.tuple _) | exact rfl) | ((with_reducible apply w_as); first | exact (rfl : _ = Value.int _ _) | exact (rfl : _ = Value.bool _) | exact (rfl : _ = Value.slice _ _ _) | exact (rfl : _ = Value.map _) | exact (rfl : _ = Value.pointer _) | exact (rfl : _ = Value.string _) | exact (rfl : _ = Value.tuple _) | exact rfl) | ((with_reducible apply w_ext); exact rfl; exact rfl) | ((with_reducible apply w_not); exact rfl) | ((with_reducible apply w_nc); exact rfl) | ((with_reducible apply w_lss); exact rfl; exact rfl) | ((with_reducible apply w_gtr); exact rfl; exact rfl) | ((with_reducible apply w_geq); exact rfl; exact rfl) | ((with_reducible apply w_eql); exact rfl; exact rfl) | ((with_reducible apply w_neq); exact rfl; exact rfl) | ((with_reducible apply w_seql); exact rfl; exact rfl) | ((with_reducible apply w_sneq); exact rfl; exact rfl) | ((with_reducible apply w_beql (ht := Try.underlying4)); exact rfl; exact rfl) | ((with_reducible apply w_bneq (ht := Try.underlying4)); exact rfl; exact rfl) | ((with_reducible apply w_lens (ht := Try.underlying22)); exact rfl) | ((with_reducible apply w_lens (ht := Try.underlying23)); exact rfl) | ((with_reducible apply w_lens (ht := Try.underlying39)); exact rfl) | ((with_reducible apply w_lens (ht := Try.underlying40)); exact rfl) | ((with_reducible apply w_lens (ht := Try.underlying47)); exact rfl) | ((with_reducible apply w_lens (ht := Try.underlying48)); exact rfl) | ((with_reducible apply w_lenstr (ht := Try.underlying9)); exact rfl)))
    (refine sq_nil ?_)
    refine cond_s rfl (fun hp => ?_) (fun hp => ?_)
    · have hpos := of_decide_eq_true hp
      rw [if_pos hpos] at hck
      refine wp_region_lit ?_
      (repeat (first | ((with_reducible apply w_mv); first | exact (rfl : _ = Value.int _ _) | exact (rfl : _ = Value.bool _) | exact (rfl : _ = Value.slice _ _ _) | exact (rfl : _ = Value.map _) | exact (rfl : _ = Value.pointer _) | exact (rfl : _ = Value.string _) | exact (rfl : _ = Value.tuple _) | exact rfl) | ((with_reducible apply w_as); first | exact (rfl : _ = Value.int _ _) | exact (rfl : _ = Value.bool _) | exact (rfl : _ = Value.slice _ _ _) | exact (rfl : _ = Value.map _) | exact (rfl : _ = Value.pointer _) | exact (rfl : _ = Value.string _) | exact (rfl : _ = Value.tuple _) | exact rfl) | ((with_reducible apply w_ext); exact rfl; exact rfl) | ((with_reducible apply w_not); exact rfl) | ((with_reducible apply w_nc); exact rfl) | ((with_reducible apply w_lss); exact rfl; exact rfl) | ((with_reducible apply w_gtr); exact rfl; exact rfl) | ((with_reducible apply w_geq); exact rfl; exact rfl) | ((with_reducible apply w_eql); exact rfl; exact rfl) | ((with_reducible apply w_neq); exact rfl; exact rfl) | ((with_reducible apply w_seql); exact rfl; exact rfl) | ((with_reducible apply w_sneq); exact rfl; exact rfl) | ((with_reducible apply w_beql (ht := Try.underlying4)); exact rfl; exact rfl) | ((with_reducible apply w_bneq (ht := Try.underlying4)); exact rfl; exact rfl) | ((with_reducible apply w_lens (ht := Try.underlying22)); exact rfl) | ((with_reducible apply w_lens (ht := Try.underlying23)); exact rfl) | ((with_reducible apply w_lens (ht := Try.underlying39)); exact rfl) | ((with_reducible apply w_lens (ht := Try.underlying40)); exact rfl) | ((with_reducible apply w_lens (ht := Try.underlying47)); exact rfl) | ((with_reducible apply w_lens (ht := Try.underlying48)); exact rfl) | ((with_reducible apply w_lenstr (ht := Try.underlying9)); exact rfl)))
      refine wl_val (ex_addi (c := ((cn (k + 1) : Nat) : Int)) rfl rfl (by omega) (by omega)) ?_
      (repeat (first | ((with_reducible apply w_mv); first | exact (rfl : _ = Value.int _ _) | exact (rfl : _ = Value.bool _) | exact (rfl : _ = Value.slice _ _ _) | exact (rfl : _ = Value.map _) | exact (rfl : _ = Value.pointer _) | exact (rfl : _ = Value.string _) | exact (rfl : _ = Value.tuple _) | exact rfl) | ((with_reducible apply w_as); first | exact (rfl : _ = Value.int _ _) | exact (rfl : _ = Value.bool _) | exact (rfl : _ = Value.slice _ _ _) | exact (rfl : _ = Value.map _) | exact (rfl : _ = Value.pointer _) | exact (rfl : _ = Value.string _) | exact (rfl : _ = Value.tuple _) | exact rfl) | ((with_reducible apply w_ext); exact rfl; exact rfl) | ((with_reducible apply w_not); exact rfl) | ((with_reducible apply w_nc); exact rfl) | ((with_reducible apply w_lss); exact rfl; exact rfl) | ((with_reducible apply w_gtr); exact rfl; exact rfl) | ((with_reducible apply w_geq); exact rfl; exact rfl) | ((with_reducible apply w_eql); exact rfl; exact rfl) | ((with_reducible apply w_neq); exact rfl; exact rfl) | ((with_reducible apply w_seql); exact rfl; exact rfl) | ((with_reducible apply w_sneq); exact rfl; exact rfl) | ((with_reducible apply w_beql (ht := Try.underlying4)); exact rfl; exact rfl) | ((with_reducible apply w_bneq (ht := Try.underlying4)); exact rfl; exact rfl) | ((with_reducible apply w_lens (ht := Try.underlying22)); exact rfl) | ((with_reducible apply w_lens (ht := Try.underlying23)); exact rfl) | ((with_reducible apply w_lens (ht := Try.underlying39)); exact rfl) | ((with_reducible apply w_lens (ht := Try.underlying40)); exact rfl) | ((with_reducible apply w_lens (ht := Try.underlying47)); exact rfl) | ((with_reducible apply w_lens (ht := Try.underlying48)); exact rfl) | ((with_reducible apply w_lenstr (ht := Try.underlying9)); exact rfl)))
      exact wpList_nil (xt_n (fin _ rfl rfl rfl rfl rfl))
    · have hneg := of_decide_eq_false hp
      rw [if_neg hneg, Nat.add_zero] at hck
      exact wp_skip (xt_n (fin _ rfl rfl (by rw [hck]; rfl) rfl rfl))
  · rintro f w1 ⟨f0, f3, f5, kp1⟩
    obtain ⟨g, rfl⟩ : ∃ g, f = upd (upd g 0 (.pointer (some ⟨A, 0, none⟩))) 5 (.int .i64 (cn 8 : Nat)) := ⟨f, by rw [← upd_id f0, ← upd_id f5]⟩
    clear f0 f3 f5
    have app1 : App w1 A M m := h.keep ((kp1.block A (by omega) (by simp)).trans (kpa.block A hA (by simp))) ((kp1.block M (by omega) (by simp)).trans (kpa.block M hM (by simp)))
    refine xt_n (sq_region ?_)
    (repeat (first | ((with_reducible apply w_mv); first | exact (rfl : _ = Value.int _ _) | exact (rfl : _ = Value.bool _) | exact (rfl : _ = Value.slice _ _ _) | exact (rfl : _ = Value.map _) | exact (rfl : _ = Value.pointer _) | exact (rfl : _ = Value.string _) | exact (rfl : _ = Value.tuple _) | exact rfl) | ((with_reducible apply w_as); first | exact (rfl : _ = Value.int _ _) | exact (rfl : _ = Value.bool _) | exact (rfl : _ = Value.slice _ _ _) | exact (rfl : _ = Value.map _) | exact (rfl : _ = Value.pointer _) | exact (rfl : _ = Value.string _) | exact (rfl : _ = Value.tuple _) | exact rfl) | ((with_reducible apply w_ext); exact rfl; exact rfl) | ((with_reducible apply w_not); exact rfl) | ((with_reducible apply w_nc); exact rfl) | ((with_reducible apply w_lss); exact rfl; exact rfl) | ((with_reducible apply w_gtr); exact rfl; exact rfl) | ((with_reducible apply w_geq); exact rfl; exact rfl) | ((with_reducible apply w_eql); exact rfl; exact rfl) | ((with_reducible apply w_neq); exact rfl; exact rfl) | ((with_reducible apply w_seql); exact rfl; exact rfl) | ((with_reducible apply w_sneq); exact rfl; exact rfl) | ((with_reducible apply w_beql (ht := Try.underlying4)); exact rfl; exact rfl) | ((with_reducible apply w_bneq (ht := Try.underlying4)); exact rfl; exact rfl) | ((with_reducible apply w_lens (ht := Try.underlying22)); exact rfl) | ((with_reducible apply w_lens (ht := Try.underlying23)); exact rfl) | ((with_reducible apply w_lens (ht := Try.underlying39)); exact rfl) | ((with_reducible apply w_lens (ht := Try.underlying40)); exact rfl) | ((with_reducible apply w_lens (ht := Try.underlying47)); exact rfl) | ((with_reducible apply w_lens (ht := Try.underlying48)); exact rfl) | ((with_reducible apply w_lenstr (ht := Try.underlying9)); exact rfl)))
    refine w_call1 ok14 ((held_any A M m w1 app1).mono ?_) rfl
    rintro e w' ⟨rfl, hw'⟩
    have hw' := hw'.symm
    subst hw'
    refine ⟨_, rfl, ?_⟩
    (repeat (first | ((with_reducible apply w_mv); first | exact (rfl : _ = Value.int _ _) | exact (rfl : _ = Value.bool _) | exact (rfl : _ = Value.slice _ _ _) | exact (rfl : _ = Value.map _) | exact (rfl : _ = Value.pointer _) | exact (rfl : _ = Value.string _) | exact (rfl : _ = Value.tuple _) | exact rfl) | ((with_reducible apply w_as); first | exact (rfl : _ = Value.int _ _) | exact (rfl : _ = Value.bool _) | exact (rfl : _ = Value.slice _ _ _) | exact (rfl : _ = Value.map _) | exact (rfl : _ = Value.pointer _) | exact (rfl : _ = Value.string _) | exact (rfl : _ = Value.tuple _) | exact rfl) | ((with_reducible apply w_ext); exact rfl; exact rfl) | ((with_reducible apply w_not); exact rfl) | ((with_reducible apply w_nc); exact rfl) | ((with_reducible apply w_lss); exact rfl; exact rfl) | ((with_reducible apply w_gtr); exact rfl; exact rfl) | ((with_reducible apply w_geq); exact rfl; exact rfl) | ((with_reducible apply w_eql); exact rfl; exact rfl) | ((with_reducible apply w_neq); exact rfl; exact rfl) | ((with_reducible apply w_seql); exact rfl; exact rfl) | ((with_reducible apply w_sneq); exact rfl; exact rfl) | ((with_reducible apply w_beql (ht := Try.underlying4)); exact rfl; exact rfl) | ((with_reducible apply w_bneq (ht := Try.underlying4)); exact rfl; exact rfl) | ((with_reducible apply w_lens (ht := Try.underlying22)); exact rfl) | ((with_reducible apply w_lens (ht := Try.underlying23)); exact rfl) | ((with_reducible apply w_lens (ht := Try.underlying39)); exact rfl) | ((with_reducible apply w_lens (ht := Try.underlying40)); exact rfl) | ((with_reducible apply w_lens (ht := Try.underlying47)); exact rfl) | ((with_reducible apply w_lens (ht := Try.underlying48)); exact rfl) | ((with_reducible apply w_lenstr (ht := Try.underlying9)); exact rfl)))
    (refine sq_nil ?_)
    refine wp_ret (leave1 (v := .bool _) rfl rfl ⟨?_, kpa.trans (kp1.mono (by omega) (by simp))⟩)
    rw [hc]
    simp

/-! ### what does not turn, what does -/
structure FC where
  N : Nat
  wN : World
  law : Nat
  aoT : Option Addr
  cT : Nat
  aoN : Option Addr
  cN : Nat
  aoO : Option Addr
  cO : Nat
  tx : List Nat
  nu : List Nat
  op : List Nat

def FC.T (c : FC) (i : Nat) : Nat := c.tx.getD i 0

structure FC.ok (c : FC) : Prop where
  size : c.wN.heap.size = c.N
  rowT : Row encB c.wN c.aoT c.tx
  ltT : ∀ x, c.aoT = some x → x.block < c.N
  rowN : Row encU c.wN c.aoN c.nu
  ltN : ∀ x, c.aoN = some x → x.block < c.N
  rowO : Row encW c.wN c.aoO c.op
  ltO : ∀ x, c.aoO = some x → x.block < c.N
  t256 : ∀ i, c.T i < 256
  n64 : ∀ v ∈ c.nu, v < 18446744073709551616
  o65536 : ∀ v ∈ c.op, v < 65536
  lenT : c.tx.length ≤ 4096
  lenN : c.nu.length ≤ 65536
  lenO : c.op.length ≤ 4096
  law3 : c.law < 3

structure FSt where
  nxt : Nat
  pend : List Nat
  tb : Nat → Nat
  m : List (ByteArray × Tl)
  wl : Nat → List (ByteArray × Nat)
  wbk : Nat → Nat
  pf : Nat → Value

structure FW (c : FC) (s : FSt) (w : World) : Prop where
  kp : Kp c.N [] c.wN w
  size : c.N + 6 ≤ w.heap.size
  app : App w (c.N + 1) c.N s.m
  ws : Arr w (c.N + 2) c.tx.length 28 (fun i => if i < s.nxt then .map (some (s.wbk i)) else .map none)
  maps : ∀ i, i < s.nxt → MapAt encU w (s.wbk i) (s.wl i) ∧ c.N + 6 ≤ s.wbk i
  pd : Arr w (c.N + 3) c.tx.length 3 s.pf
  pdv : ∀ j v, s.pend[j]? = some v → s.pf j = .int .i64 (v : Nat)
  pca : Arr w (c.N + 4) 8 50 (fun k => .int .i64 (pcnt c.T s.pend k : Nat))
  tba : Arr w (c.N + 5) 8 51 (fun k => .int .u64 (s.tb k : Nat))
  le : s.nxt ≤ c.tx.length
  inv : FInv c.T s.nxt s.pend s.tb s.m s.wl

theorem FW.keep {c : FC} {s : FSt} {w w' : World} (h : FW c s w) (hk : Kp w.heap.size [] w w') : FW c s w' := by
  have hb : ∀ i, i < w.heap.size → w'.heap[i]? = w.heap[i]? := fun i hi => hk.block i hi (by simp)
  have hs := h.size
  exact ⟨h.kp.trans (hk.mono (by omega) (by simp)), Nat.le_trans hs hk.size, h.app.keep (hb _ (by omega)) (hb _ (by omega)), h.ws.of_block (hb _ (by omega)), fun i hi => ⟨(h.maps i hi).1.of_block (hb _ (h.maps i hi).1.lt), (h.maps i hi).2⟩,
    h.pd.of_block (hb _ (by omega)), h.pdv, h.pca.of_block (hb _ (by omega)), h.tba.of_block (hb _ (by omega)), h.le, h.inv⟩
theorem FW.drew {c : FC} {s : FSt} {w : World} (h : FW c s w) : FW c s w.drew := h.keep ((Kp.refl _ _ w).drew)

/-- The frame. -/
structure FF (c : FC) (nxt pl p o : Nat) (f : Nat → Value) : Prop where
  f0 : f 0 = .slice c.aoT c.tx.length c.cT
  f1 : f 1 = .slice c.aoN c.nu.length c.cN
  f2 : f 2 = .slice c.aoO c.op.length c.cO
  f3 : f 3 = .int .i64 (c.law : Nat)
  f9 : f 9 = .pointer (some ⟨c.N + 1, 0, none⟩)
  f10 : f 10 = .slice (some ⟨c.N + 2, 0, none⟩) c.tx.length c.tx.length
  f11 : f 11 = .slice (some ⟨c.N + 3, 0, none⟩) pl c.tx.length
  f12 : f 12 = .pointer (some ⟨c.N + 4, 0, none⟩)
  f13 : f 13 = .pointer (some ⟨c.N + 5, 0, none⟩)
  f14 : f 14 = .int .i64 (nxt : Nat)
  f15 : f 15 = .int .i64 (p : Nat)
  f16 : f 16 = .int .i64 (o : Nat)

def ffr (c : FC) (nxt pl p o : Nat) (g : Nat → Value) : Nat → Value :=
  upd (upd (upd (upd (upd (upd (upd (upd (upd (upd (upd (upd g 0 (.slice c.aoT c.tx.length c.cT)) 1 (.slice c.aoN c.nu.length c.cN)) 2 (.slice c.aoO c.op.length c.cO)) 3 (.int .i64 (c.law : Nat))) 9 (.pointer (some ⟨c.N + 1, 0, none⟩)))
    10 (.slice (some ⟨c.N + 2, 0, none⟩) c.tx.length c.tx.length)) 11 (.slice (some ⟨c.N + 3, 0, none⟩) pl c.tx.length)) 12 (.pointer (some ⟨c.N + 4, 0, none⟩))) 13 (.pointer (some ⟨c.N + 5, 0, none⟩))) 14 (.int .i64 (nxt : Nat))) 15 (.int .i64 (p : Nat))) 16 (.int .i64 (o : Nat))

theorem FF.open {c : FC} {nxt pl p o : Nat} {f : Nat → Value} (h : FF c nxt pl p o f) : f = ffr c nxt pl p o f := by
  unfold ffr
  rw [← upd_id h.f0, ← upd_id h.f1, ← upd_id h.f2, ← upd_id h.f3, ← upd_id h.f9, ← upd_id h.f10, ← upd_id h.f11, ← upd_id h.f12, ← upd_id h.f13, ← upd_id h.f14, ← upd_id h.f15, ← upd_id h.f16]

theorem FF.agr {c : FC} {nxt pl p o : Nat} {f f' : Nat → Value} {W : List Nat} (h : FF c nxt pl p o f) (ha : Agr W f f') (hW : [0, 1, 2, 3, 9, 10, 11, 12, 13, 14, 15, 16].all (fun t => !W.contains t) = true) : FF c nxt pl p o f' := by
  simp only [List.all_cons, List.all_nil, Bool.and_true, Bool.and_eq_true, Bool.not_eq_true'] at hW
  obtain ⟨w0, w1, w2, w3, w9, w10, w11, w12, w13, w14, w15, w16⟩ := hW
  exact ⟨(ha 0 w0).trans h.f0, (ha 1 w1).trans h.f1, (ha 2 w2).trans h.f2, (ha 3 w3).trans h.f3, (ha 9 w9).trans h.f9, (ha 10 w10).trans h.f10, (ha 11 w11).trans h.f11, (ha 12 w12).trans h.f12, (ha 13 w13).trans h.f13, (ha 14 w14).trans h.f14, (ha 15 w15).trans h.f15, (ha 16 w16).trans h.f16⟩

theorem FC.getT {c : FC} {i : Nat} (hi : i < c.tx.length) : c.tx[i]? = some (c.T i) := by
  unfold FC.T
  simp [List.getD, hi]
theorem FC.ok.cellT {c : FC} (h : c.ok) {w : World} (kp : Kp c.N [] c.wN w) {i : Nat} (hi : i < c.tx.length) : ∃ x, c.aoT = some x ∧ w.cell? (x.add i) = some (.int .u8 (c.T i : Nat)) := by
  obtain ⟨x, hx, hc⟩ := h.rowT i _ (FC.getT hi)
  exact ⟨x, hx, (World.cell?_of_block (by rw [add_block]; exact kp.block _ (h.ltT x hx) (by simp))).trans hc⟩
theorem FC.ok.cellN {c : FC} (h : c.ok) {w : World} (kp : Kp c.N [] c.wN w) {i v : Nat} (hi : c.nu[i]? = some v) : ∃ x, c.aoN = some x ∧ w.cell? (x.add i) = some (.int .u64 (v : Nat)) := by
  obtain ⟨x, hx, hc⟩ := h.rowN i _ hi
  exact ⟨x, hx, (World.cell?_of_block (by rw [add_block]; exact kp.block _ (h.ltN x hx) (by simp))).trans hc⟩
theorem FC.ok.cellO {c : FC} (h : c.ok) {w : World} (kp : Kp c.N [] c.wN w) {i v : Nat} (hi : c.op[i]? = some v) : ∃ x, c.aoO = some x ∧ w.cell? (x.add i) = some (.int .u16 (v : Nat)) := by
  obtain ⟨x, hx, hc⟩ := h.rowO i _ hi
  exact ⟨x, hx, (World.cell?_of_block (by rw [add_block]; exact kp.block _ (h.ltO x hx) (by simp))).trans hc⟩
end Go.Proofs.Qxb6600002a
