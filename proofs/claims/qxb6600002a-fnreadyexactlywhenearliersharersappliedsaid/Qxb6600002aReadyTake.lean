/-
  FnReadyExactlyWhenEarlierSharersApplied: the branch that takes the next transaction.
-/
import Derived.Test.Qxb6600002aReadyW
namespace Go.Proofs.Qxb6600002a
set_option linter.unusedSimpArgs false
set_option linter.unusedVariables false
open Go.MapKept Go.ChangeMaps Go.RowKit

/-- The slots that the first k keys of a mask touch. -/
def tch (sl : Nat → Nat) (M k q : Nat) : Bool := (List.range k).any fun i => M.testBit i && (sl i == q)
theorem tch_succ (sl : Nat → Nat) (M k q : Nat) : tch sl M (k + 1) q = (tch sl M k q || (M.testBit k && (sl k == q))) := by
  unfold tch
  rw [List.range_succ, List.any_append]
  simp
theorem tch_in {sl : Nat → Nat} {M k i : Nat} (hi : i < k) (hb : M.testBit i = true) : tch sl M k (sl i) = true := by
  unfold tch
  rw [List.any_eq_true]
  exact ⟨i, by simpa using hi, by simp [hb]⟩

theorem zero53 (w : World) : (zeroValue 53).run Try.prog w = .ok (.agg (arr 8 fun _ => .bool false)) w := by kernel_rfl

/-- The deps that the first k keys of the mask make. -/
def DSpec (c : RC) (s : RSt) (k : Nat) (dm : List (ByteArray × Nat)) : Prop :=
  (∀ i, i < k → (c.T s.nxt).testBit i = true → mget dm (kn i) = some (c.bs (c.sl i) + s.sc (c.sl i))) ∧ ∀ x, mget dm x ≠ none → ∃ i, i < k ∧ (c.T s.nxt).testBit i = true ∧ kn i = x

theorem MapAt.keepmap {α : Type} {enc : α → Value} {w w' : World} {b : Nat} {m : List (ByteArray × α)} (h : MapAt enc w b m) (hk : ∀ es cl, w.heap[b]? = some (.map es cl) → w'.heap[b]? = some (.map es cl)) : MapAt enc w' b m := by
  obtain ⟨es, cl, hb, rest⟩ := h
  exact ⟨es, cl, hk es cl hb, rest⟩

theorem names_zero : names 0 8 = [] := by simp [names]

/-- The queues when the first k keys have been served. -/
def qk (c : RC) (nxt k j : Nat) : List Nat := if j < k then qs c.T (nxt + 1) j else qs c.T nxt j
theorem qk_len (c : RC) (nxt k j : Nat) : (qk c nxt k j).length ≤ nxt + 1 := by
  unfold qk
  split
  · exact qs_len_le _ _ _
  · have := qs_len_le c.T nxt j
    omega
theorem qk_other {c : RC} {nxt k j : Nat} (h : j ≠ k) : qk c nxt (k + 1) j = qk c nxt k j := by
  unfold qk
  have : (j < k + 1) = (j < k) := by apply propext; omega
  simp only [this]
theorem qk_yes {c : RC} {nxt k : Nat} (h : (c.T nxt).testBit k = true) : qk c nxt (k + 1) k = qk c nxt k k ++ [nxt] := by
  unfold qk
  rw [if_pos (by omega), if_neg (by omega), qs_succ, h]
  rfl
theorem qk_no {c : RC} {nxt k : Nat} (h : (c.T nxt).testBit k = false) : qk c nxt (k + 1) k = qk c nxt k k := by
  unfold qk
  rw [if_pos (by omega), if_neg (by omega), qs_succ, h]
  simp

set_option maxHeartbeats 8000000 in
theorem take4 (c : RC) (hc : c.ok) (s : RSt) (p : Nat) (f : Nat → Value) (w : World) (Q : Exit → Act → World → Prop) (hf : RF c s.nxt p f) (hw : RW c s w)
    (hnorm : ∀ f' w' s', RF c s'.nxt p f' → RW c s' w' → Q .normal (Fr 260 f') w') (hcont : ∀ f', RF c s.nxt p f' → Q (.exit 1) (Fr 260 f') w) :
    Code.wp Try.prog (sub (Try.f4.body.getD .skip) [1, 1, 1, 1, 1, 1, 1, 1, 1, 1, 1, 1, 0, 1, 2, 3, 1, 0, 2, 1, 1, 4]) Q (Fr 260 f) w := by
  have lenT := hc.lenT
  have hle := hw.le
  have hsz := hw.size
  rw [hf.open]
  generalize f = g
  refine wp_seq (sq_region ?_)
  (repeat (first | ((with_reducible apply w_mv); first | exact (rfl : _ = Value.int _ _) | exact (rfl : _ = Value.bool _) | exact (rfl : _ = Value.slice _ _ _) | exact (rfl : _ = Value.map _) | exact (rfl : _ = Value.pointer _) | exact (rfl : _ = Value.string _) | exact (rfl : _ = Value.tuple _) | exact rfl) | ((with_reducible apply w_as); first | exact (rfl : _ = Value.int _ _) | exact (rfl : _ = Value.bool _) | exact (rfl : _ = Value.slice _ _ _) | exact (rfl : _ = Value.map _) | exact (rfl : _ = Value.pointer _) | exact (rfl : _ = Value.string _) | exact (rfl : _ = Value.tuple _) | exact rfl) | ((with_reducible apply w_ext); exact rfl; exact rfl) | ((with_reducible apply w_not); exact rfl) | ((with_reducible apply w_nc); exact rfl) | ((with_reducible apply w_lss); exact rfl; exact rfl) | ((with_reducible apply w_gtr); exact rfl; exact rfl) | ((with_reducible apply w_geq); exact rfl; exact rfl) | ((with_reducible apply w_eql); exact rfl; exact rfl) | ((with_reducible apply w_neq); exact rfl; exact rfl) | ((with_reducible apply w_seql); exact rfl; exact rfl) | ((with_reducible apply w_sneq); exact rfl; exact rfl) | ((with_reducible apply w_beql (ht := Try.underlying4)); exact rfl; exact rfl) | ((with_reducible apply w_bneq (ht := Try.underlying4)); exact rfl; exact rfl) | ((with_reducible apply w_lens (ht := Try.underlying22)); exact rfl) | ((with_reducible apply w_lens (ht := Try.underlying23)); exact rfl) | ((with_reducible apply w_lens (ht := Try.underlying39)); exact rfl) | ((with_reducible apply w_lens (ht := Try.underlying40)); exact rfl) | ((with_reducible apply w_lens (ht := Try.underlying47)); exact rfl) | ((with_reducible apply w_lens (ht := Try.underlying48)); exact rfl) | ((with_reducible apply w_lenstr (ht := Try.underlying9)); exact rfl)))
  (refine sq_nil ?_)
  refine cond_s rfl (fun hp => ?_) (fun hp => ?_)
  · refine wp_exit (xt_exit (hcont _ ⟨rfl, rfl, rfl, rfl, rfl, rfl, rfl, rfl, rfl, rfl, rfl⟩))
  have hlt : s.nxt < c.tx.length := by have := of_decide_eq_false hp; omega
  clear hp hcont
  obtain ⟨x, hx, hcell⟩ := hc.cellT hw.kp hlt
  have hM := hc.t256 s.nxt
  refine wp_skip (xt_n (sq_region ?_))
  (repeat (first | ((with_reducible apply w_mv); first | exact (rfl : _ = Value.int _ _) | exact (rfl : _ = Value.bool _) | exact (rfl : _ = Value.slice _ _ _) | exact (rfl : _ = Value.map _) | exact (rfl : _ = Value.pointer _) | exact (rfl : _ = Value.string _) | exact (rfl : _ = Value.tuple _) | exact rfl) | ((with_reducible apply w_as); first | exact (rfl : _ = Value.int _ _) | exact (rfl : _ = Value.bool _) | exact (rfl : _ = Value.slice _ _ _) | exact (rfl : _ = Value.map _) | exact (rfl : _ = Value.pointer _) | exact (rfl : _ = Value.string _) | exact (rfl : _ = Value.tuple _) | exact rfl) | ((with_reducible apply w_ext); exact rfl; exact rfl) | ((with_reducible apply w_not); exact rfl) | ((with_reducible apply w_nc); exact rfl) | ((with_reducible apply w_lss); exact rfl; exact rfl) | ((with_reducible apply w_gtr); exact rfl; exact rfl) | ((with_reducible apply w_geq); exact rfl; exact rfl) | ((with_reducible apply w_eql); exact rfl; exact rfl) | ((with_reducible apply w_neq); exact rfl; exact rfl) | ((with_reducible apply w_seql); exact rfl; exact rfl) | ((with_reducible apply w_sneq); exact rfl; exact rfl) | ((with_reducible apply w_beql (ht := Try.underlying4)); exact rfl; exact rfl) | ((with_reducible apply w_bneq (ht := Try.underlying4)); exact rfl; exact rfl) | ((with_reducible apply w_lens (ht := Try.underlying22)); exact rfl) | ((with_reducible apply w_lens (ht := Try.underlying23)); exact rfl) | ((with_reducible apply w_lens (ht := Try.underlying39)); exact rfl) | ((with_reducible apply w_lens (ht := Try.underlying40)); exact rfl) | ((with_reducible apply w_lens (ht := Try.underlying47)); exact rfl) | ((with_reducible apply w_lens (ht := Try.underlying48)); exact rfl) | ((with_reducible apply w_lenstr (ht := Try.underlying9)); exact rfl)))
  refine wl_val (ex_index (ad := x) Try.underlying39 size5 (by rw [← hx]; rfl) rfl rfl hlt) ?_
  refine wl_val (ex_load (v := .int .u8 _) Try.underlying5 rfl rfl hcell) ?_
  (repeat (first | ((with_reducible apply w_mv); first | exact (rfl : _ = Value.int _ _) | exact (rfl : _ = Value.bool _) | exact (rfl : _ = Value.slice _ _ _) | exact (rfl : _ = Value.map _) | exact (rfl : _ = Value.pointer _) | exact (rfl : _ = Value.string _) | exact (rfl : _ = Value.tuple _) | exact rfl) | ((with_reducible apply w_as); first | exact (rfl : _ = Value.int _ _) | exact (rfl : _ = Value.bool _) | exact (rfl : _ = Value.slice _ _ _) | exact (rfl : _ = Value.map _) | exact (rfl : _ = Value.pointer _) | exact (rfl : _ = Value.string _) | exact (rfl : _ = Value.tuple _) | exact rfl) | ((with_reducible apply w_ext); exact rfl; exact rfl) | ((with_reducible apply w_not); exact rfl) | ((with_reducible apply w_nc); exact rfl) | ((with_reducible apply w_lss); exact rfl; exact rfl) | ((with_reducible apply w_gtr); exact rfl; exact rfl) | ((with_reducible apply w_geq); exact rfl; exact rfl) | ((with_reducible apply w_eql); exact rfl; exact rfl) | ((with_reducible apply w_neq); exact rfl; exact rfl) | ((with_reducible apply w_seql); exact rfl; exact rfl) | ((with_reducible apply w_sneq); exact rfl; exact rfl) | ((with_reducible apply w_beql (ht := Try.underlying4)); exact rfl; exact rfl) | ((with_reducible apply w_bneq (ht := Try.underlying4)); exact rfl; exact rfl) | ((with_reducible apply w_lens (ht := Try.underlying22)); exact rfl) | ((with_reducible apply w_lens (ht := Try.underlying23)); exact rfl) | ((with_reducible apply w_lens (ht := Try.underlying39)); exact rfl) | ((with_reducible apply w_lens (ht := Try.underlying40)); exact rfl) | ((with_reducible apply w_lens (ht := Try.underlying47)); exact rfl) | ((with_reducible apply w_lens (ht := Try.underlying48)); exact rfl) | ((with_reducible apply w_lenstr (ht := Try.underlying9)); exact rfl)))
  (refine sq_nil ?_)
  refine sq_region ?_
  refine wl_val (ex_makeMap Try.underlying28 rfl) ?_
  (repeat (first | ((with_reducible apply w_mv); first | exact (rfl : _ = Value.int _ _) | exact (rfl : _ = Value.bool _) | exact (rfl : _ = Value.slice _ _ _) | exact (rfl : _ = Value.map _) | exact (rfl : _ = Value.pointer _) | exact (rfl : _ = Value.string _) | exact (rfl : _ = Value.tuple _) | exact rfl) | ((with_reducible apply w_as); first | exact (rfl : _ = Value.int _ _) | exact (rfl : _ = Value.bool _) | exact (rfl : _ = Value.slice _ _ _) | exact (rfl : _ = Value.map _) | exact (rfl : _ = Value.pointer _) | exact (rfl : _ = Value.string _) | exact (rfl : _ = Value.tuple _) | exact rfl) | ((with_reducible apply w_ext); exact rfl; exact rfl) | ((with_reducible apply w_not); exact rfl) | ((with_reducible apply w_nc); exact rfl) | ((with_reducible apply w_lss); exact rfl; exact rfl) | ((with_reducible apply w_gtr); exact rfl; exact rfl) | ((with_reducible apply w_geq); exact rfl; exact rfl) | ((with_reducible apply w_eql); exact rfl; exact rfl) | ((with_reducible apply w_neq); exact rfl; exact rfl) | ((with_reducible apply w_seql); exact rfl; exact rfl) | ((with_reducible apply w_sneq); exact rfl; exact rfl) | ((with_reducible apply w_beql (ht := Try.underlying4)); exact rfl; exact rfl) | ((with_reducible apply w_bneq (ht := Try.underlying4)); exact rfl; exact rfl) | ((with_reducible apply w_lens (ht := Try.underlying22)); exact rfl) | ((with_reducible apply w_lens (ht := Try.underlying23)); exact rfl) | ((with_reducible apply w_lens (ht := Try.underlying39)); exact rfl) | ((with_reducible apply w_lens (ht := Try.underlying40)); exact rfl) | ((with_reducible apply w_lens (ht := Try.underlying47)); exact rfl) | ((with_reducible apply w_lens (ht := Try.underlying48)); exact rfl) | ((with_reducible apply w_lenstr (ht := Try.underlying9)); exact rfl)))
  (refine sq_nil ?_)
  refine sq_region ?_
  refine wl_val (ex_alloc (zero53 _)) ?_
  (refine sq_nil ?_)
  have sz0 : (w.alloc (.map #[] 0)).heap.size = w.heap.size + 1 := by simp
  rw [sz0]
  generalize hwa : (w.alloc (.map #[] 0)).alloc (.cells (Value.cells (.agg (arr 8 fun _ => .bool false))) 53) = wa
  have sza : wa.heap.size = w.heap.size + 2 := by rw [← hwa]; simp
  have kpa : Kp w.heap.size [] w wa := by rw [← hwa]; exact ((Kp.refl _ _ w).alloc (Nat.le_refl _) _).alloc (by simp) _
  have mapa : MapAt encU wa w.heap.size [] := by rw [← hwa]; exact (MapAt.made encU w).of_block ((heap_alloc _ _).2 _ (by simp))
  have tcha : Arr wa (w.heap.size + 1) 8 53 (fun q => .bool (tch c.sl (c.T s.nxt) 0 q)) := by
    have h1 := (heap_alloc (w.alloc (.map #[] 0)) (.cells (Value.cells (.agg (arr 8 fun _ => .bool false))) 53)).1
    rw [hwa, sz0] at h1
    exact h1
  clear hwa
  refine wp_seq (sq_region ?_)
  (repeat (first | ((with_reducible apply w_mv); first | exact (rfl : _ = Value.int _ _) | exact (rfl : _ = Value.bool _) | exact (rfl : _ = Value.slice _ _ _) | exact (rfl : _ = Value.map _) | exact (rfl : _ = Value.pointer _) | exact (rfl : _ = Value.string _) | exact (rfl : _ = Value.tuple _) | exact rfl) | ((with_reducible apply w_as); first | exact (rfl : _ = Value.int _ _) | exact (rfl : _ = Value.bool _) | exact (rfl : _ = Value.slice _ _ _) | exact (rfl : _ = Value.map _) | exact (rfl : _ = Value.pointer _) | exact (rfl : _ = Value.string _) | exact (rfl : _ = Value.tuple _) | exact rfl) | ((with_reducible apply w_ext); exact rfl; exact rfl) | ((with_reducible apply w_not); exact rfl) | ((with_reducible apply w_nc); exact rfl) | ((with_reducible apply w_lss); exact rfl; exact rfl) | ((with_reducible apply w_gtr); exact rfl; exact rfl) | ((with_reducible apply w_geq); exact rfl; exact rfl) | ((with_reducible apply w_eql); exact rfl; exact rfl) | ((with_reducible apply w_neq); exact rfl; exact rfl) | ((with_reducible apply w_seql); exact rfl; exact rfl) | ((with_reducible apply w_sneq); exact rfl; exact rfl) | ((with_reducible apply w_beql (ht := Try.underlying4)); exact rfl; exact rfl) | ((with_reducible apply w_bneq (ht := Try.underlying4)); exact rfl; exact rfl) | ((with_reducible apply w_lens (ht := Try.underlying22)); exact rfl) | ((with_reducible apply w_lens (ht := Try.underlying23)); exact rfl) | ((with_reducible apply w_lens (ht := Try.underlying39)); exact rfl) | ((with_reducible apply w_lens (ht := Try.underlying40)); exact rfl) | ((with_reducible apply w_lens (ht := Try.underlying47)); exact rfl) | ((with_reducible apply w_lens (ht := Try.underlying48)); exact rfl) | ((with_reducible apply w_lenstr (ht := Try.underlying9)); exact rfl)))
  (refine sq_nil ?_)
  -- the deps
  refine for8 (fun k f w1 => RF c s.nxt p f ∧ f 17 = .int .u8 (c.T s.nxt : Nat) ∧ f 18 = .map (some w.heap.size) ∧ f 19 = .pointer (some ⟨w.heap.size + 1, 0, none⟩) ∧ Kp w.heap.size [] w w1 ∧ w1.heap.size = w.heap.size + 2 ∧
      (∃ dm, MapAt encU w1 w.heap.size dm ∧ DSpec c s k dm) ∧ Arr w1 (w.heap.size + 1) 8 53 (fun q => .bool (tch c.sl (c.T s.nxt) k q))) rfl (by decide) rfl
    ⟨⟨rfl, rfl, rfl, rfl, rfl, rfl, rfl, rfl, rfl, rfl, rfl⟩, rfl, rfl, rfl, kpa, sza, ⟨[], mapa, fun i hi => by omega, fun x hx => absurd rfl hx⟩, tcha⟩ ?_ ?_ ?_
  · rintro k f f' w1 ha ⟨h1, h2, h3, h4, rest⟩
    exact ⟨h1.agr ha rfl, (ha 17 rfl).trans h2, (ha 18 rfl).trans h3, (ha 19 rfl).trans h4, rest⟩
  · rintro k f w1 R hk8 fk ⟨hf1, f17, f18, f19, kp1, sz1, ⟨dm, hdm, hds⟩, harr⟩ hR hret
    obtain ⟨g, rfl⟩ : ∃ g, f = upd (upd (upd (upd (rfr c s.nxt p g) 17 (.int .u8 (c.T s.nxt : Nat))) 18 (.map (some w.heap.size))) 19 (.pointer (some ⟨w.heap.size + 1, 0, none⟩))) 20 (.int .i64 (k : Int)) := ⟨f, by rw [← hf1.open, ← upd_id f17, ← upd_id f18, ← upd_id f19, ← upd_id fk]⟩
    clear hf1 f17 f18 f19 fk
    have kpN : Kp c.N [] c.wN w1 := hw.kp.trans (kp1.mono (by omega) (by simp))
    have hsl8 : c.sl k < 8 := hc.sl8
    refine sq_region ?_
    (repeat (first | ((with_reducible apply w_mv); first | exact (rfl : _ = Value.int _ _) | exact (rfl : _ = Value.bool _) | exact (rfl : _ = Value.slice _ _ _) | exact (rfl : _ = Value.map _) | exact (rfl : _ = Value.pointer _) | exact (rfl : _ = Value.string _) | exact (rfl : _ = Value.tuple _) | exact rfl) | ((with_reducible apply w_as); first | exact (rfl : _ = Value.int _ _) | exact (rfl : _ = Value.bool _) | exact (rfl : _ = Value.slice _ _ _) | exact (rfl : _ = Value.map _) | exact (rfl : _ = Value.pointer _) | exact (rfl : _ = Value.string _) | exact (rfl : _ = Value.tuple _) | exact rfl) | ((with_reducible apply w_ext); exact rfl; exact rfl) | ((with_reducible apply w_not); exact rfl) | ((with_reducible apply w_nc); exact rfl) | ((with_reducible apply w_lss); exact rfl; exact rfl) | ((with_reducible apply w_gtr); exact rfl; exact rfl) | ((with_reducible apply w_geq); exact rfl; exact rfl) | ((with_reducible apply w_eql); exact rfl; exact rfl) | ((with_reducible apply w_neq); exact rfl; exact rfl) | ((with_reducible apply w_seql); exact rfl; exact rfl) | ((with_reducible apply w_sneq); exact rfl; exact rfl) | ((with_reducible apply w_beql (ht := Try.underlying4)); exact rfl; exact rfl) | ((with_reducible apply w_bneq (ht := Try.underlying4)); exact rfl; exact rfl) | ((with_reducible apply w_lens (ht := Try.underlying22)); exact rfl) | ((with_reducible apply w_lens (ht := Try.underlying23)); exact rfl) | ((with_reducible apply w_lens (ht := Try.underlying39)); exact rfl) | ((with_reducible apply w_lens (ht := Try.underlying40)); exact rfl) | ((with_reducible apply w_lens (ht := Try.underlying47)); exact rfl) | ((with_reducible apply w_lens (ht := Try.underlying48)); exact rfl) | ((with_reducible apply w_lenstr (ht := Try.underlying9)); exact rfl)))
    refine w_call2 ok20 ((hasKey_any (c.T s.nxt) k hM hk8 w1).mono ?_) rfl rfl
    rintro e w' ⟨rfl, hw'⟩
    have hw' := hw'.symm
    subst hw'
    refine ⟨_, rfl, ?_⟩
    (refine sq_nil ?_)
    refine cond_s rfl (fun hp => ?_) (fun hp => ?_)
    · have cS : w1.cell? ⟨c.HS, k, none⟩ = some (.int .u8 (c.slo k : Nat)) := (hc.arrS.of_block (kpN.block _ hc.ltS (by simp))).cell hk8
      have cB : w1.cell? ⟨c.HB, c.sl k, none⟩ = some (.int .u32 (c.bs (c.sl k) : Nat)) := (hc.arrB.of_block (kpN.block _ hc.ltB (by simp))).cell hsl8
      have cC : w1.cell? ⟨c.N + 5, c.sl k, none⟩ = some (.int .u64 (s.sc (c.sl k) : Nat)) := (hw.sca.of_block (kp1.block _ (by omega) (by simp))).cell hsl8
      have hb1 := hc.b32 _ hsl8
      have hb2 := hw.inv.scb _ hsl8
      refine sq_region ?_
      (repeat (first | ((with_reducible apply w_mv); first | exact (rfl : _ = Value.int _ _) | exact (rfl : _ = Value.bool _) | exact (rfl : _ = Value.slice _ _ _) | exact (rfl : _ = Value.map _) | exact (rfl : _ = Value.pointer _) | exact (rfl : _ = Value.string _) | exact (rfl : _ = Value.tuple _) | exact rfl) | ((with_reducible apply w_as); first | exact (rfl : _ = Value.int _ _) | exact (rfl : _ = Value.bool _) | exact (rfl : _ = Value.slice _ _ _) | exact (rfl : _ = Value.map _) | exact (rfl : _ = Value.pointer _) | exact (rfl : _ = Value.string _) | exact (rfl : _ = Value.tuple _) | exact rfl) | ((with_reducible apply w_ext); exact rfl; exact rfl) | ((with_reducible apply w_not); exact rfl) | ((with_reducible apply w_nc); exact rfl) | ((with_reducible apply w_lss); exact rfl; exact rfl) | ((with_reducible apply w_gtr); exact rfl; exact rfl) | ((with_reducible apply w_geq); exact rfl; exact rfl) | ((with_reducible apply w_eql); exact rfl; exact rfl) | ((with_reducible apply w_neq); exact rfl; exact rfl) | ((with_reducible apply w_seql); exact rfl; exact rfl) | ((with_reducible apply w_sneq); exact rfl; exact rfl) | ((with_reducible apply w_beql (ht := Try.underlying4)); exact rfl; exact rfl) | ((with_reducible apply w_bneq (ht := Try.underlying4)); exact rfl; exact rfl) | ((with_reducible apply w_lens (ht := Try.underlying22)); exact rfl) | ((with_reducible apply w_lens (ht := Try.underlying23)); exact rfl) | ((with_reducible apply w_lens (ht := Try.underlying39)); exact rfl) | ((with_reducible apply w_lens (ht := Try.underlying40)); exact rfl) | ((with_reducible apply w_lens (ht := Try.underlying47)); exact rfl) | ((with_reducible apply w_lens (ht := Try.underlying48)); exact rfl) | ((with_reducible apply w_lenstr (ht := Try.underlying9)); exact rfl)))
      refine wl_val (ex_index_arr Try.underlying41 size5 rfl rfl rfl hk8) ?_
      refine wl_val (ex_load (v := .int .u8 _) Try.underlying5 rfl rfl cS) ?_
      refine wl_val (ex_andu8 (i := c.slo k) (j := 7) rfl rfl rfl rfl (hc.s256 k hk8) (by decide)) ?_
      refine wl_val (ex_convi Try.underlying5 Try.underlying3 rfl (wi64 (by have : c.slo k &&& 7 ≤ 7 := Nat.and_le_right; omega))) ?_
      refine w_as (v := .int .i64 ((c.sl k : Nat) : Int)) rfl ?_
      (refine sq_nil ?_)
      refine wp_seq (region_tail (l1 := [_, _, _, _, _, _, _, _, _, _, _]) (l2 := [_]) rfl mixed (by kernel_rfl) ?_)
      (repeat (first | ((with_reducible apply s_mv); first | exact (rfl : _ = Value.int _ _) | exact (rfl : _ = Value.bool _) | exact (rfl : _ = Value.slice _ _ _) | exact (rfl : _ = Value.map _) | exact (rfl : _ = Value.pointer _) | exact (rfl : _ = Value.string _) | exact (rfl : _ = Value.tuple _) | exact rfl) | ((with_reducible apply s_as); first | exact (rfl : _ = Value.int _ _) | exact (rfl : _ = Value.bool _) | exact (rfl : _ = Value.slice _ _ _) | exact (rfl : _ = Value.map _) | exact (rfl : _ = Value.pointer _) | exact (rfl : _ = Value.string _) | exact (rfl : _ = Value.tuple _) | exact rfl) | ((with_reducible apply s_ext); exact rfl; exact rfl) | ((with_reducible apply s_not); exact rfl) | ((with_reducible apply s_nc); exact rfl) | ((with_reducible apply s_lss); exact rfl; exact rfl) | ((with_reducible apply s_gtr); exact rfl; exact rfl) | ((with_reducible apply s_geq); exact rfl; exact rfl) | ((with_reducible apply s_eql); exact rfl; exact rfl) | ((with_reducible apply s_neq); exact rfl; exact rfl) | ((with_reducible apply s_seql); exact rfl; exact rfl) | ((with_reducible apply s_sneq); exact rfl; exact rfl) | ((with_reducible apply s_beql (ht := Try.underlying4)); exact rfl; exact rfl) | ((with_reducible apply s_bneq (ht := Try.underlying4)); exact rfl; exact rfl) | ((with_reducible apply s_lens (ht := Try.underlying22)); exact rfl) | ((with_reducible apply s_lens (ht := Try.underlying23)); exact rfl) | ((with_reducible apply s_lens (ht := Try.underlying39)); exact rfl) | ((with_reducible apply s_lens (ht := Try.underlying40)); exact rfl) | ((with_reducible apply s_lens (ht := Try.underlying47)); exact rfl) | ((with_reducible apply s_lens (ht := Try.underlying48)); exact rfl) | ((with_reducible apply s_lenstr (ht := Try.underlying9)); exact rfl)))
      refine s_call1 (.string (kn k)) ok21 (keyName_any k hk8 _) rfl ?_
      (repeat (first | ((with_reducible apply s_mv); first | exact (rfl : _ = Value.int _ _) | exact (rfl : _ = Value.bool _) | exact (rfl : _ = Value.slice _ _ _) | exact (rfl : _ = Value.map _) | exact (rfl : _ = Value.pointer _) | exact (rfl : _ = Value.string _) | exact (rfl : _ = Value.tuple _) | exact rfl) | ((with_reducible apply s_as); first | exact (rfl : _ = Value.int _ _) | exact (rfl : _ = Value.bool _) | exact (rfl : _ = Value.slice _ _ _) | exact (rfl : _ = Value.map _) | exact (rfl : _ = Value.pointer _) | exact (rfl : _ = Value.string _) | exact (rfl : _ = Value.tuple _) | exact rfl) | ((with_reducible apply s_ext); exact rfl; exact rfl) | ((with_reducible apply s_not); exact rfl) | ((with_reducible apply s_nc); exact rfl) | ((with_reducible apply s_lss); exact rfl; exact rfl) | ((with_reducible apply s_gtr); exact rfl; exact rfl) | ((with_reducible apply s_geq); exact rfl; exact rfl) | ((with_reducible apply s_eql); exact rfl; exact rfl) | ((with_reducible apply s_neq); exact rfl; exact rfl) | ((with_reducible apply s_seql); exact rfl; exact rfl) | ((with_reducible apply s_sneq); exact rfl; exact rfl) | ((with_reducible apply s_beql (ht := Try.underlying4)); exact rfl; exact rfl) | ((with_reducible apply s_bneq (ht := Try.underlying4)); exact rfl; exact rfl) | ((with_reducible apply s_lens (ht := Try.underlying22)); exact rfl) | ((with_reducible apply s_lens (ht := Try.underlying23)); exact rfl) | ((with_reducible apply s_lens (ht := Try.underlying39)); exact rfl) | ((with_reducible apply s_lens (ht := Try.underlying40)); exact rfl) | ((with_reducible apply s_lens (ht := Try.underlying47)); exact rfl) | ((with_reducible apply s_lens (ht := Try.underlying48)); exact rfl) | ((with_reducible apply s_lenstr (ht := Try.underlying9)); exact rfl)))
      refine sl_val (ex_index_arr Try.underlying43 size42 rfl rfl rfl hsl8) ?_
      refine sl_val (ex_load (v := .int .u32 _) Try.underlying42 rfl rfl cB) ?_
      refine sl_val (ex_convi Try.underlying42 Try.underlying29 rfl (wu64 (by omega))) ?_
      (repeat (first | ((with_reducible apply s_mv); first | exact (rfl : _ = Value.int _ _) | exact (rfl : _ = Value.bool _) | exact (rfl : _ = Value.slice _ _ _) | exact (rfl : _ = Value.map _) | exact (rfl : _ = Value.pointer _) | exact (rfl : _ = Value.string _) | exact (rfl : _ = Value.tuple _) | exact rfl) | ((with_reducible apply s_as); first | exact (rfl : _ = Value.int _ _) | exact (rfl : _ = Value.bool _) | exact (rfl : _ = Value.slice _ _ _) | exact (rfl : _ = Value.map _) | exact (rfl : _ = Value.pointer _) | exact (rfl : _ = Value.string _) | exact (rfl : _ = Value.tuple _) | exact rfl) | ((with_reducible apply s_ext); exact rfl; exact rfl) | ((with_reducible apply s_not); exact rfl) | ((with_reducible apply s_nc); exact rfl) | ((with_reducible apply s_lss); exact rfl; exact rfl) | ((with_reducible apply s_gtr); exact rfl; exact rfl) | ((with_reducible apply s_geq); exact rfl; exact rfl) | ((with_reducible apply s_eql); exact rfl; exact rfl) | ((with_reducible apply s_neq); exact rfl; exact rfl) | ((with_reducible apply s_seql); exact rfl; exact rfl) | ((with_reducible apply s_sneq); exact rfl; exact rfl) | ((with_reducible apply s_beql (ht := Try.underlying4)); exact rfl; exact rfl) | ((with_reducible apply s_bneq (ht := Try.underlying4)); exact rfl; exact rfl) | ((with_reducible apply s_lens (ht := Try.underlying22)); exact rfl) | ((with_reducible apply s_lens (ht := Try.underlying23)); exact rfl) | ((with_reducible apply s_lens (ht := Try.underlying39)); exact rfl) | ((with_reducible apply s_lens (ht := Try.underlying40)); exact rfl) | ((with_reducible apply s_lens (ht := Try.underlying47)); exact rfl) | ((with_reducible apply s_lens (ht := Try.underlying48)); exact rfl) | ((with_reducible apply s_lenstr (ht := Try.underlying9)); exact rfl)))
      refine sl_val (ex_index_arr Try.underlying51 size29 rfl rfl rfl hsl8) ?_
      refine sl_val (ex_load (v := .int .u64 _) Try.underlying29 rfl rfl cC) ?_
      refine sl_val (ex_addu (c := ((c.bs (c.sl k) + s.sc (c.sl k) : Nat) : Int)) rfl rfl (by omega) (by omega)) ?_
      refine wpStill_nil ?_
      refine wl_mapUpdate (enc := encU) (m := dm) (val := c.bs (c.sl k) + s.sc (c.sl k)) hdm Try.underlying28 Try.underlying9 rfl rfl rfl fun w3 hm3 hg3 hs3 => ?_
      have hs3' : w3.heap.size = w1.heap.size := hs3
      have k3 : ∀ i, i < w1.heap.size → i ≠ w.heap.size → w3.heap[i]? = w1.heap[i]? := fun i hi hne => hg3.block i hi (by simpa using hne)
      refine wpList_nil (xt_n (wp_region_lit ?_))
      (repeat (first | ((with_reducible apply w_mv); first | exact (rfl : _ = Value.int _ _) | exact (rfl : _ = Value.bool _) | exact (rfl : _ = Value.slice _ _ _) | exact (rfl : _ = Value.map _) | exact (rfl : _ = Value.pointer _) | exact (rfl : _ = Value.string _) | exact (rfl : _ = Value.tuple _) | exact rfl) | ((with_reducible apply w_as); first | exact (rfl : _ = Value.int _ _) | exact (rfl : _ = Value.bool _) | exact (rfl : _ = Value.slice _ _ _) | exact (rfl : _ = Value.map _) | exact (rfl : _ = Value.pointer _) | exact (rfl : _ = Value.string _) | exact (rfl : _ = Value.tuple _) | exact rfl) | ((with_reducible apply w_ext); exact rfl; exact rfl) | ((with_reducible apply w_not); exact rfl) | ((with_reducible apply w_nc); exact rfl) | ((with_reducible apply w_lss); exact rfl; exact rfl) | ((with_reducible apply w_gtr); exact rfl; exact rfl) | ((with_reducible apply w_geq); exact rfl; exact rfl) | ((with_reducible apply w_eql); exact rfl; exact rfl) | ((with_reducible apply w_neq); exact rfl; exact rfl) | ((with_reducible apply w_seql); exact rfl; exact rfl) | ((with_reducible apply w_sneq); exact rfl; exact rfl) | ((with_reducible apply w_beql (ht := Try.underlying4)); exact rfl; exact rfl) | ((with_reducible apply w_bneq (ht := Try.underlying4)); exact rfl; exact rfl) | ((with_reducible apply w_lens (ht := Try.underlying22)); exact rfl) | ((with_reducible apply w_lens (ht := Try.underlying23)); exact rfl) | ((with_reducible apply w_lens (ht := Try.underlying39)); exact rfl) | ((with_reducible apply w_lens (ht := Try.underlying40)); exact rfl) | ((with_reducible apply w_lens (ht := Try.underlying47)); exact rfl) | ((with_reducible apply w_lens (ht := Try.underlying48)); exact rfl) | ((with_reducible apply w_lenstr (ht := Try.underlying9)); exact rfl)))
      refine wl_val (ex_index_arr Try.underlying53 size4 rfl rfl rfl hsl8) ?_
      refine wl_set (v := .bool true) (harr.of_block (k3 _ (by omega) (by omega))) hsl8 size4 rfl rfl rfl fun w4 ha4 hb4 hs4 hk4 => ?_
      refine wpList_nil (hR _ _ rfl ⟨⟨rfl, rfl, rfl, rfl, rfl, rfl, rfl, rfl, rfl, rfl, rfl⟩, rfl, rfl, rfl, ?_, ?_, ⟨_, hm3.of_block (hb4 _ (by omega)), ?_, ?_⟩, ?_⟩)
      · exact hk4 _ _ _ (Or.inl (by omega)) (kp1.drew.grown hg3 (by show _ ≤ w1.heap.size; omega) (Or.inl (Nat.le_refl _)))
      · omega
      · intro i hi hb
        rw [mget_mput]
        by_cases e : k = i
        · subst e; simp
        · rw [if_neg (fun h => e (kn_inj' hk8 (by omega) h))]
          exact hds.1 i (by omega) hb
      · intro x hx
        rw [mget_mput] at hx
        by_cases e : kn k = x
        · exact ⟨k, by omega, hp, e⟩
        · rw [if_neg e] at hx
          obtain ⟨i, hi, hb, he⟩ := hds.2 x hx
          exact ⟨i, by omega, hb, he⟩
      · refine ha4.congr (fun q hq => ?_)
        rw [tch_succ, hp]
        by_cases e : q = c.sl k
        · subst e; simp
        · simp [e, Ne.symm e]
    · refine wp_skip (hR _ _ rfl ⟨⟨rfl, rfl, rfl, rfl, rfl, rfl, rfl, rfl, rfl, rfl, rfl⟩, rfl, rfl, rfl, kp1, sz1, ⟨dm, hdm, ?_, ?_⟩, ?_⟩)
      · intro i hi hb
        by_cases e : k = i
        · subst e; rw [hp] at hb; cases hb
        · exact hds.1 i (by omega) hb
      · intro x hx
        obtain ⟨i, hi, hb, he⟩ := hds.2 x hx
        exact ⟨i, by omega, hb, he⟩
      · refine harr.congr (fun q hq => ?_)
        rw [tch_succ, hp]
        simp
  rintro f w1 ⟨hf1, f17, f18, f19, kp1, sz1, ⟨dm, hdm, hds⟩, harr⟩
  obtain ⟨g, rfl⟩ : ∃ g, f = upd (upd (upd (rfr c s.nxt p g) 17 (.int .u8 (c.T s.nxt : Nat))) 18 (.map (some w.heap.size))) 19 (.pointer (some ⟨w.heap.size + 1, 0, none⟩)) := ⟨f, by rw [← hf1.open, ← upd_id f17, ← upd_id f18, ← upd_id f19]⟩
  clear hf1 f17 f18 f19
  have hd1 := hds.1
  have hd2 := hds.2
  clear hds kpa mapa tcha sza sz0
  -- the slots' counts
  refine xt_n (wp_seq (sq_region ?_))
  (repeat (first | ((with_reducible apply w_mv); first | exact (rfl : _ = Value.int _ _) | exact (rfl : _ = Value.bool _) | exact (rfl : _ = Value.slice _ _ _) | exact (rfl : _ = Value.map _) | exact (rfl : _ = Value.pointer _) | exact (rfl : _ = Value.string _) | exact (rfl : _ = Value.tuple _) | exact rfl) | ((with_reducible apply w_as); first | exact (rfl : _ = Value.int _ _) | exact (rfl : _ = Value.bool _) | exact (rfl : _ = Value.slice _ _ _) | exact (rfl : _ = Value.map _) | exact (rfl : _ = Value.pointer _) | exact (rfl : _ = Value.string _) | exact (rfl : _ = Value.tuple _) | exact rfl) | ((with_reducible apply w_ext); exact rfl; exact rfl) | ((with_reducible apply w_not); exact rfl) | ((with_reducible apply w_nc); exact rfl) | ((with_reducible apply w_lss); exact rfl; exact rfl) | ((with_reducible apply w_gtr); exact rfl; exact rfl) | ((with_reducible apply w_geq); exact rfl; exact rfl) | ((with_reducible apply w_eql); exact rfl; exact rfl) | ((with_reducible apply w_neq); exact rfl; exact rfl) | ((with_reducible apply w_seql); exact rfl; exact rfl) | ((with_reducible apply w_sneq); exact rfl; exact rfl) | ((with_reducible apply w_beql (ht := Try.underlying4)); exact rfl; exact rfl) | ((with_reducible apply w_bneq (ht := Try.underlying4)); exact rfl; exact rfl) | ((with_reducible apply w_lens (ht := Try.underlying22)); exact rfl) | ((with_reducible apply w_lens (ht := Try.underlying23)); exact rfl) | ((with_reducible apply w_lens (ht := Try.underlying39)); exact rfl) | ((with_reducible apply w_lens (ht := Try.underlying40)); exact rfl) | ((with_reducible apply w_lens (ht := Try.underlying47)); exact rfl) | ((with_reducible apply w_lens (ht := Try.underlying48)); exact rfl) | ((with_reducible apply w_lenstr (ht := Try.underlying9)); exact rfl)))
  (refine sq_nil ?_)
  refine for8 (fun k f w2 => RF c s.nxt p f ∧ f 17 = .int .u8 (c.T s.nxt : Nat) ∧ f 18 = .map (some w.heap.size) ∧ f 19 = .pointer (some ⟨w.heap.size + 1, 0, none⟩) ∧ Kp (w.heap.size + 2) [c.N + 5] w1 w2 ∧ w2.heap.size = w.heap.size + 2 ∧
      Arr w2 (c.N + 5) 8 51 (fun q => .int .u64 ((if q < k ∧ tch c.sl (c.T s.nxt) 8 q = true then s.sc q + 1 else s.sc q : Nat) : Int))) rfl (by decide) rfl
    ⟨⟨rfl, rfl, rfl, rfl, rfl, rfl, rfl, rfl, rfl, rfl, rfl⟩, rfl, rfl, rfl, Kp.refl _ _ _, sz1, (hw.sca.of_block (kp1.block _ (by omega) (by simp))).congr (fun q _ => by simp)⟩ ?_ ?_ ?_
  · rintro k f f' w1 ha ⟨h1, h2, h3, h4, rest⟩
    exact ⟨h1.agr ha rfl, (ha 17 rfl).trans h2, (ha 18 rfl).trans h3, (ha 19 rfl).trans h4, rest⟩
  · rintro k f w2 R hk8 fk ⟨hf1, f17, f18, f19, kp2, sz2, hsc⟩ hR hret
    obtain ⟨g, rfl⟩ : ∃ g, f = upd (upd (upd (upd (rfr c s.nxt p g) 17 (.int .u8 (c.T s.nxt : Nat))) 18 (.map (some w.heap.size))) 19 (.pointer (some ⟨w.heap.size + 1, 0, none⟩))) 22 (.int .i64 (k : Int)) := ⟨f, by rw [← hf1.open, ← upd_id f17, ← upd_id f18, ← upd_id f19, ← upd_id fk]⟩
    clear hf1 f17 f18 f19 fk
    have hscb := hw.inv.scb k hk8
    have cT : w2.cell? ⟨w.heap.size + 1, k, none⟩ = some (.bool (tch c.sl (c.T s.nxt) 8 k)) := (harr.of_block (kp2.block _ (by omega) (by simp; omega))).cell hk8
    refine sq_region ?_
    (repeat (first | ((with_reducible apply w_mv); first | exact (rfl : _ = Value.int _ _) | exact (rfl : _ = Value.bool _) | exact (rfl : _ = Value.slice _ _ _) | exact (rfl : _ = Value.map _) | exact (rfl : _ = Value.pointer _) | exact (rfl : _ = Value.string _) | exact (rfl : _ = Value.tuple _) | exact rfl) | ((with_reducible apply w_as); first | exact (rfl : _ = Value.int _ _) | exact (rfl : _ = Value.bool _) | exact (rfl : _ = Value.slice _ _ _) | exact (rfl : _ = Value.map _) | exact (rfl : _ = Value.pointer _) | exact (rfl : _ = Value.string _) | exact (rfl : _ = Value.tuple _) | exact rfl) | ((with_reducible apply w_ext); exact rfl; exact rfl) | ((with_reducible apply w_not); exact rfl) | ((with_reducible apply w_nc); exact rfl) | ((with_reducible apply w_lss); exact rfl; exact rfl) | ((with_reducible apply w_gtr); exact rfl; exact rfl) | ((with_reducible apply w_geq); exact rfl; exact rfl) | ((with_reducible apply w_eql); exact rfl; exact rfl) | ((with_reducible apply w_neq); exact rfl; exact rfl) | ((with_reducible apply w_seql); exact rfl; exact rfl) | ((with_reducible apply w_sneq); exact rfl; exact rfl) | ((with_reducible apply w_beql (ht := Try.underlying4)); exact rfl; exact rfl) | ((with_reducible apply w_bneq (ht := Try.underlying4)); exact rfl; exact rfl) | ((with_reducible apply w_lens (ht := Try.underlying22)); exact rfl) | ((with_reducible apply w_lens (ht := Try.underlying23)); exact rfl) | ((with_reducible apply w_lens (ht := Try.underlying39)); exact rfl) | ((with_reducible apply w_lens (ht := Try.underlying40)); exact rfl) | ((with_reducible apply w_lens (ht := Try.underlying47)); exact rfl) | ((with_reducible apply w_lens (ht := Try.underlying48)); exact rfl) | ((with_reducible apply w_lenstr (ht := Try.underlying9)); exact rfl)))
    refine wl_val (ex_index_arr Try.underlying53 size4 rfl rfl rfl hk8) ?_
    refine wl_val (ex_load (v := .bool _) Try.underlying4 rfl rfl cT) ?_
    (refine sq_nil ?_)
    refine cond_s rfl (fun hp => ?_) (fun hp => ?_)
    · have cC : w2.cell? ⟨c.N + 5, k, none⟩ = some (.int .u64 (s.sc k : Nat)) := by
        rw [hsc.cell hk8, if_neg (by omega)]
      refine wp_region_lit ?_
      (repeat (first | ((with_reducible apply w_mv); first | exact (rfl : _ = Value.int _ _) | exact (rfl : _ = Value.bool _) | exact (rfl : _ = Value.slice _ _ _) | exact (rfl : _ = Value.map _) | exact (rfl : _ = Value.pointer _) | exact (rfl : _ = Value.string _) | exact (rfl : _ = Value.tuple _) | exact rfl) | ((with_reducible apply w_as); first | exact (rfl : _ = Value.int _ _) | exact (rfl : _ = Value.bool _) | exact (rfl : _ = Value.slice _ _ _) | exact (rfl : _ = Value.map _) | exact (rfl : _ = Value.pointer _) | exact (rfl : _ = Value.string _) | exact (rfl : _ = Value.tuple _) | exact rfl) | ((with_reducible apply w_ext); exact rfl; exact rfl) | ((with_reducible apply w_not); exact rfl) | ((with_reducible apply w_nc); exact rfl) | ((with_reducible apply w_lss); exact rfl; exact rfl) | ((with_reducible apply w_gtr); exact rfl; exact rfl) | ((with_reducible apply w_geq); exact rfl; exact rfl) | ((with_reducible apply w_eql); exact rfl; exact rfl) | ((with_reducible apply w_neq); exact rfl; exact rfl) | ((with_reducible apply w_seql); exact rfl; exact rfl) | ((with_reducible apply w_sneq); exact rfl; exact rfl) | ((with_reducible apply w_beql (ht := Try.underlying4)); exact rfl; exact rfl) | ((with_reducible apply w_bneq (ht := Try.underlying4)); exact rfl; exact rfl) | ((with_reducible apply w_lens (ht := Try.underlying22)); exact rfl) | ((with_reducible apply w_lens (ht := Try.underlying23)); exact rfl) | ((with_reducible apply w_lens (ht := Try.underlying39)); exact rfl) | ((with_reducible apply w_lens (ht := Try.underlying40)); exact rfl) | ((with_reducible apply w_lens (ht := Try.underlying47)); exact rfl) | ((with_reducible apply w_lens (ht := Try.underlying48)); exact rfl) | ((with_reducible apply w_lenstr (ht := Try.underlying9)); exact rfl)))
      refine wl_val (ex_index_arr Try.underlying51 size29 rfl rfl rfl hk8) ?_
      refine wl_val (ex_load (v := .int .u64 _) Try.underlying29 rfl rfl cC) ?_
      refine wl_val (ex_addu (c := ((s.sc k + 1 : Nat) : Int)) rfl rfl (by omega) (by omega)) ?_
      refine wl_val (ex_index_arr Try.underlying51 size29 rfl rfl rfl hk8) ?_
      refine wl_set (v := .int .u64 ((s.sc k + 1 : Nat) : Int)) hsc hk8 size29 rfl rfl rfl fun w4 ha4 hb4 hs4 hk4 => ?_
      refine wpList_nil (hR _ _ rfl ⟨⟨rfl, rfl, rfl, rfl, rfl, rfl, rfl, rfl, rfl, rfl, rfl⟩, rfl, rfl, rfl, hk4 _ _ _ (Or.inr (by simp)) kp2, by omega, ha4.congr (fun q hq => ?_)⟩)
      by_cases e : q = k
      · subst e; simp [hp]
      · have h1 : (q < k + 1) = (q < k) := by apply propext; omega
        simp only [if_neg e, h1]
    · refine wp_skip (hR _ _ rfl ⟨⟨rfl, rfl, rfl, rfl, rfl, rfl, rfl, rfl, rfl, rfl, rfl⟩, rfl, rfl, rfl, kp2, sz2, hsc.congr (fun q hq => ?_)⟩)
      by_cases e : q = k
      · subst e; simp [hp]
      · have h1 : (q < k + 1) = (q < k) := by apply propext; omega
        simp only [h1]
  rintro f w2 ⟨hf1, f17, f18, f19, kp2, sz2, hsc⟩
  obtain ⟨g, rfl⟩ : ∃ g, f = upd (upd (rfr c s.nxt p g) 17 (.int .u8 (c.T s.nxt : Nat))) 18 (.map (some w.heap.size)) := ⟨f, by rw [← hf1.open, ← upd_id f17, ← upd_id f18]⟩
  clear hf1 f17 f18 f19
  generalize hsc' : (fun q => if tch c.sl (c.T s.nxt) 8 q = true then s.sc q + 1 else s.sc q) = sc'
  have hsc2 : Arr w2 (c.N + 5) 8 51 (fun q => .int .u64 (sc' q : Nat)) := hsc.congr (fun q hq => by rw [← hsc']; simp [hq])
  have hs1 : ∀ q, q < 8 → s.sc q ≤ sc' q ∧ sc' q ≤ s.sc q + 1 := fun q _ => by rw [← hsc']; dsimp only; split <;> omega
  have hs2 : ∀ k, k < 8 → (c.T s.nxt).testBit k = true → sc' (c.sl k) = s.sc (c.sl k) + 1 := fun k hk hb => by rw [← hsc']; simp [tch_in hk hb]
  clear hsc hsc' harr
  have k2 : ∀ i, i < w.heap.size → i ≠ c.N + 5 → w2.heap[i]? = w.heap[i]? := fun i hi hne => (kp2.block i (by omega) (by simpa using hne)).trans (kp1.block i hi (by simp))
  have hdm2 : MapAt encU w2 w.heap.size dm := hdm.of_block (kp2.block _ (by omega) (by simp; omega))
  have app2 : App w2 (c.N + 1) c.N s.m := hw.app.keep (k2 _ (by omega) (by omega)) (k2 _ (by omega) (by omega))
  have hsmall := hw.inv.small (by omega)
  have hdv : ∀ q ∈ dm, q.2 < 18446744073709551616 := by
    rintro ⟨x, v⟩ hq
    have hg := mget_of_mem hdm.uniq hq
    obtain ⟨i, hi, hb, he⟩ := hd2 x (by rw [hg]; simp)
    have h1 := hd1 i hi hb
    rw [he, hg] at h1
    cases h1
    have := hc.b32 _ (hc.sl8 (k := i))
    have := hw.inv.scb _ (hc.sl8 (k := i))
    show c.bs (c.sl i) + s.sc (c.sl i) < 18446744073709551616
    omega
  -- Take
  refine xt_n (sq_region ?_)
  (repeat (first | ((with_reducible apply w_mv); first | exact (rfl : _ = Value.int _ _) | exact (rfl : _ = Value.bool _) | exact (rfl : _ = Value.slice _ _ _) | exact (rfl : _ = Value.map _) | exact (rfl : _ = Value.pointer _) | exact (rfl : _ = Value.string _) | exact (rfl : _ = Value.tuple _) | exact rfl) | ((with_reducible apply w_as); first | exact (rfl : _ = Value.int _ _) | exact (rfl : _ = Value.bool _) | exact (rfl : _ = Value.slice _ _ _) | exact (rfl : _ = Value.map _) | exact (rfl : _ = Value.pointer _) | exact (rfl : _ = Value.string _) | exact (rfl : _ = Value.tuple _) | exact rfl) | ((with_reducible apply w_ext); exact rfl; exact rfl) | ((with_reducible apply w_not); exact rfl) | ((with_reducible apply w_nc); exact rfl) | ((with_reducible apply w_lss); exact rfl; exact rfl) | ((with_reducible apply w_gtr); exact rfl; exact rfl) | ((with_reducible apply w_geq); exact rfl; exact rfl) | ((with_reducible apply w_eql); exact rfl; exact rfl) | ((with_reducible apply w_neq); exact rfl; exact rfl) | ((with_reducible apply w_seql); exact rfl; exact rfl) | ((with_reducible apply w_sneq); exact rfl; exact rfl) | ((with_reducible apply w_beql (ht := Try.underlying4)); exact rfl; exact rfl) | ((with_reducible apply w_bneq (ht := Try.underlying4)); exact rfl; exact rfl) | ((with_reducible apply w_lens (ht := Try.underlying22)); exact rfl) | ((with_reducible apply w_lens (ht := Try.underlying23)); exact rfl) | ((with_reducible apply w_lens (ht := Try.underlying39)); exact rfl) | ((with_reducible apply w_lens (ht := Try.underlying40)); exact rfl) | ((with_reducible apply w_lens (ht := Try.underlying47)); exact rfl) | ((with_reducible apply w_lens (ht := Try.underlying48)); exact rfl) | ((with_reducible apply w_lenstr (ht := Try.underlying9)); exact rfl)))
  refine w_call2 ok12 ((take_any (c.N + 1) c.N w.heap.size s.m dm w2 app2 hdm2 (by omega) hsmall hdv).mono ?_) rfl rfl
  rintro e w3 ⟨wm, m', rfl, sz3, hwm, app3, kp3, e1, e2⟩
  refine ⟨_, rfl, ?_⟩
  (repeat (first | ((with_reducible apply w_mv); first | exact (rfl : _ = Value.int _ _) | exact (rfl : _ = Value.bool _) | exact (rfl : _ = Value.slice _ _ _) | exact (rfl : _ = Value.map _) | exact (rfl : _ = Value.pointer _) | exact (rfl : _ = Value.string _) | exact (rfl : _ = Value.tuple _) | exact rfl) | ((with_reducible apply w_as); first | exact (rfl : _ = Value.int _ _) | exact (rfl : _ = Value.bool _) | exact (rfl : _ = Value.slice _ _ _) | exact (rfl : _ = Value.map _) | exact (rfl : _ = Value.pointer _) | exact (rfl : _ = Value.string _) | exact (rfl : _ = Value.tuple _) | exact rfl) | ((with_reducible apply w_ext); exact rfl; exact rfl) | ((with_reducible apply w_not); exact rfl) | ((with_reducible apply w_nc); exact rfl) | ((with_reducible apply w_lss); exact rfl; exact rfl) | ((with_reducible apply w_gtr); exact rfl; exact rfl) | ((with_reducible apply w_geq); exact rfl; exact rfl) | ((with_reducible apply w_eql); exact rfl; exact rfl) | ((with_reducible apply w_neq); exact rfl; exact rfl) | ((with_reducible apply w_seql); exact rfl; exact rfl) | ((with_reducible apply w_sneq); exact rfl; exact rfl) | ((with_reducible apply w_beql (ht := Try.underlying4)); exact rfl; exact rfl) | ((with_reducible apply w_bneq (ht := Try.underlying4)); exact rfl; exact rfl) | ((with_reducible apply w_lens (ht := Try.underlying22)); exact rfl) | ((with_reducible apply w_lens (ht := Try.underlying23)); exact rfl) | ((with_reducible apply w_lens (ht := Try.underlying39)); exact rfl) | ((with_reducible apply w_lens (ht := Try.underlying40)); exact rfl) | ((with_reducible apply w_lens (ht := Try.underlying47)); exact rfl) | ((with_reducible apply w_lens (ht := Try.underlying48)); exact rfl) | ((with_reducible apply w_lenstr (ht := Try.underlying9)); exact rfl)))
  (refine sq_nil ?_)
  rw [sz2] at hwm
  obtain ⟨hinv', hkeys⟩ := hw.inv.take hd1 hd2 e1 e2 hs1 hs2
  clear hd1 hd2 e1 e2 hs1 hs2 hdv hsmall
  refine wp_seq (sq_region ?_)
  (repeat (first | ((with_reducible apply w_mv); first | exact (rfl : _ = Value.int _ _) | exact (rfl : _ = Value.bool _) | exact (rfl : _ = Value.slice _ _ _) | exact (rfl : _ = Value.map _) | exact (rfl : _ = Value.pointer _) | exact (rfl : _ = Value.string _) | exact (rfl : _ = Value.tuple _) | exact rfl) | ((with_reducible apply w_as); first | exact (rfl : _ = Value.int _ _) | exact (rfl : _ = Value.bool _) | exact (rfl : _ = Value.slice _ _ _) | exact (rfl : _ = Value.map _) | exact (rfl : _ = Value.pointer _) | exact (rfl : _ = Value.string _) | exact (rfl : _ = Value.tuple _) | exact rfl) | ((with_reducible apply w_ext); exact rfl; exact rfl) | ((with_reducible apply w_not); exact rfl) | ((with_reducible apply w_nc); exact rfl) | ((with_reducible apply w_lss); exact rfl; exact rfl) | ((with_reducible apply w_gtr); exact rfl; exact rfl) | ((with_reducible apply w_geq); exact rfl; exact rfl) | ((with_reducible apply w_eql); exact rfl; exact rfl) | ((with_reducible apply w_neq); exact rfl; exact rfl) | ((with_reducible apply w_seql); exact rfl; exact rfl) | ((with_reducible apply w_sneq); exact rfl; exact rfl) | ((with_reducible apply w_beql (ht := Try.underlying4)); exact rfl; exact rfl) | ((with_reducible apply w_bneq (ht := Try.underlying4)); exact rfl; exact rfl) | ((with_reducible apply w_lens (ht := Try.underlying22)); exact rfl) | ((with_reducible apply w_lens (ht := Try.underlying23)); exact rfl) | ((with_reducible apply w_lens (ht := Try.underlying39)); exact rfl) | ((with_reducible apply w_lens (ht := Try.underlying40)); exact rfl) | ((with_reducible apply w_lens (ht := Try.underlying47)); exact rfl) | ((with_reducible apply w_lens (ht := Try.underlying48)); exact rfl) | ((with_reducible apply w_lenstr (ht := Try.underlying9)); exact rfl)))
  refine w_call2 ok22 ((sameKeys_any _ (c.T s.nxt) wm w3 hwm hM hkeys).mono ?_) (by rw [sz2]; rfl) rfl
  rintro e w' ⟨rfl, hw'⟩
  have hw' := hw'.symm
  subst hw'
  refine ⟨_, rfl, ?_⟩
  (repeat (first | ((with_reducible apply w_mv); first | exact (rfl : _ = Value.int _ _) | exact (rfl : _ = Value.bool _) | exact (rfl : _ = Value.slice _ _ _) | exact (rfl : _ = Value.map _) | exact (rfl : _ = Value.pointer _) | exact (rfl : _ = Value.string _) | exact (rfl : _ = Value.tuple _) | exact rfl) | ((with_reducible apply w_as); first | exact (rfl : _ = Value.int _ _) | exact (rfl : _ = Value.bool _) | exact (rfl : _ = Value.slice _ _ _) | exact (rfl : _ = Value.map _) | exact (rfl : _ = Value.pointer _) | exact (rfl : _ = Value.string _) | exact (rfl : _ = Value.tuple _) | exact rfl) | ((with_reducible apply w_ext); exact rfl; exact rfl) | ((with_reducible apply w_not); exact rfl) | ((with_reducible apply w_nc); exact rfl) | ((with_reducible apply w_lss); exact rfl; exact rfl) | ((with_reducible apply w_gtr); exact rfl; exact rfl) | ((with_reducible apply w_geq); exact rfl; exact rfl) | ((with_reducible apply w_eql); exact rfl; exact rfl) | ((with_reducible apply w_neq); exact rfl; exact rfl) | ((with_reducible apply w_seql); exact rfl; exact rfl) | ((with_reducible apply w_sneq); exact rfl; exact rfl) | ((with_reducible apply w_beql (ht := Try.underlying4)); exact rfl; exact rfl) | ((with_reducible apply w_bneq (ht := Try.underlying4)); exact rfl; exact rfl) | ((with_reducible apply w_lens (ht := Try.underlying22)); exact rfl) | ((with_reducible apply w_lens (ht := Try.underlying23)); exact rfl) | ((with_reducible apply w_lens (ht := Try.underlying39)); exact rfl) | ((with_reducible apply w_lens (ht := Try.underlying40)); exact rfl) | ((with_reducible apply w_lens (ht := Try.underlying47)); exact rfl) | ((with_reducible apply w_lens (ht := Try.underlying48)); exact rfl) | ((with_reducible apply w_lenstr (ht := Try.underlying9)); exact rfl)))
  (refine sq_nil ?_)
  refine cond_n rfl rfl (wp_skip (xt_n ?_))
  refine wp_seq_k fun K hK => ?_
  have fin : ∀ (f' : Nat → Value) (w4 : World), RF c s.nxt p f' → f' 17 = .int .u8 (c.T s.nxt : Nat) → f' 23 = .map (some (w.heap.size + 2)) → Kp w3.heap.size [] w3 w4 → K (Fr 260 f') w4 := by
    intro f' w4 hf' f17 f23 kp4
    refine hK _ _ ?_
    obtain ⟨g, rfl⟩ : ∃ g, f' = upd (upd (rfr c s.nxt p g) 17 (.int .u8 (c.T s.nxt : Nat))) 23 (.map (some (w.heap.size + 2))) := ⟨f', by rw [← hf'.open, ← upd_id f17, ← upd_id f23]⟩
    clear hf' f17 f23
    have sz4 := kp4.size
    have hWlt := hwm.lt
    have k4 : ∀ i, i < w.heap.size → i ≠ c.N + 5 → i ≠ c.N → w4.heap[i]? = w.heap[i]? := fun i hi h5 h0 => (kp4.block i (by omega) (by simp)).trans ((kp3.block i (by omega) (by simpa using h0)).trans (k2 i hi h5))
    have hwm4 : MapAt encU w4 (w.heap.size + 2) wm := hwm.of_block (kp4.block _ hWlt (by simp))
    have app4 : App w4 (c.N + 1) c.N m' := app3.keep (kp4.block _ app3.ltA (by simp)) (kp4.block _ app3.2.lt (by simp))
    have sc4 : Arr w4 (c.N + 5) 8 51 (fun q => .int .u64 (sc' q : Nat)) := hsc2.of_block ((kp4.block _ (by omega) (by simp)).trans (kp3.block _ (by omega) (by simp)))
    have kpN4 : Kp c.N [] c.wN w4 := ((hw.kp.trans (kp1.mono (by omega) (by simp))).trans (kp2.mono (by omega) (fun k hk hm => by simp at hm; omega))).trans ((kp3.mono (by omega) (fun k hk hm => by simp at hm; omega)).trans (kp4.mono (by omega) (by simp)))
    refine sq_region ?_
    (repeat (first | ((with_reducible apply w_mv); first | exact (rfl : _ = Value.int _ _) | exact (rfl : _ = Value.bool _) | exact (rfl : _ = Value.slice _ _ _) | exact (rfl : _ = Value.map _) | exact (rfl : _ = Value.pointer _) | exact (rfl : _ = Value.string _) | exact (rfl : _ = Value.tuple _) | exact rfl) | ((with_reducible apply w_as); first | exact (rfl : _ = Value.int _ _) | exact (rfl : _ = Value.bool _) | exact (rfl : _ = Value.slice _ _ _) | exact (rfl : _ = Value.map _) | exact (rfl : _ = Value.pointer _) | exact (rfl : _ = Value.string _) | exact (rfl : _ = Value.tuple _) | exact rfl) | ((with_reducible apply w_ext); exact rfl; exact rfl) | ((with_reducible apply w_not); exact rfl) | ((with_reducible apply w_nc); exact rfl) | ((with_reducible apply w_lss); exact rfl; exact rfl) | ((with_reducible apply w_gtr); exact rfl; exact rfl) | ((with_reducible apply w_geq); exact rfl; exact rfl) | ((with_reducible apply w_eql); exact rfl; exact rfl) | ((with_reducible apply w_neq); exact rfl; exact rfl) | ((with_reducible apply w_seql); exact rfl; exact rfl) | ((with_reducible apply w_sneq); exact rfl; exact rfl) | ((with_reducible apply w_beql (ht := Try.underlying4)); exact rfl; exact rfl) | ((with_reducible apply w_bneq (ht := Try.underlying4)); exact rfl; exact rfl) | ((with_reducible apply w_lens (ht := Try.underlying22)); exact rfl) | ((with_reducible apply w_lens (ht := Try.underlying23)); exact rfl) | ((with_reducible apply w_lens (ht := Try.underlying39)); exact rfl) | ((with_reducible apply w_lens (ht := Try.underlying40)); exact rfl) | ((with_reducible apply w_lens (ht := Try.underlying47)); exact rfl) | ((with_reducible apply w_lens (ht := Try.underlying48)); exact rfl) | ((with_reducible apply w_lenstr (ht := Try.underlying9)); exact rfl)))
    refine wl_val (ex_index0 Try.underlying47 size28 rfl rfl rfl hlt) ?_
    refine wl_set (v := .map (some (w.heap.size + 2))) (hw.ws.of_block (k4 _ (by omega) (by omega) (by omega))) hlt size28 rfl rfl rfl fun w5 ws5 hb5 hs5 hk5 => ?_
    (refine sq_nil ?_)
    have kpN5 : Kp c.N [] c.wN w5 := hk5 _ _ _ (Or.inl (by omega)) kpN4
    have k5 : ∀ i, i < w.heap.size → i ≠ c.N + 5 → i ≠ c.N → i ≠ c.N + 2 → w5.heap[i]? = w.heap[i]? := fun i hi h5 h0 h2 => (hb5 i h2).trans (k4 i hi h5 h0)
    -- the queues
    refine wp_seq (sq_region ?_)
    (repeat (first | ((with_reducible apply w_mv); first | exact (rfl : _ = Value.int _ _) | exact (rfl : _ = Value.bool _) | exact (rfl : _ = Value.slice _ _ _) | exact (rfl : _ = Value.map _) | exact (rfl : _ = Value.pointer _) | exact (rfl : _ = Value.string _) | exact (rfl : _ = Value.tuple _) | exact rfl) | ((with_reducible apply w_as); first | exact (rfl : _ = Value.int _ _) | exact (rfl : _ = Value.bool _) | exact (rfl : _ = Value.slice _ _ _) | exact (rfl : _ = Value.map _) | exact (rfl : _ = Value.pointer _) | exact (rfl : _ = Value.string _) | exact (rfl : _ = Value.tuple _) | exact rfl) | ((with_reducible apply w_ext); exact rfl; exact rfl) | ((with_reducible apply w_not); exact rfl) | ((with_reducible apply w_nc); exact rfl) | ((with_reducible apply w_lss); exact rfl; exact rfl) | ((with_reducible apply w_gtr); exact rfl; exact rfl) | ((with_reducible apply w_geq); exact rfl; exact rfl) | ((with_reducible apply w_eql); exact rfl; exact rfl) | ((with_reducible apply w_neq); exact rfl; exact rfl) | ((with_reducible apply w_seql); exact rfl; exact rfl) | ((with_reducible apply w_sneq); exact rfl; exact rfl) | ((with_reducible apply w_beql (ht := Try.underlying4)); exact rfl; exact rfl) | ((with_reducible apply w_bneq (ht := Try.underlying4)); exact rfl; exact rfl) | ((with_reducible apply w_lens (ht := Try.underlying22)); exact rfl) | ((with_reducible apply w_lens (ht := Try.underlying23)); exact rfl) | ((with_reducible apply w_lens (ht := Try.underlying39)); exact rfl) | ((with_reducible apply w_lens (ht := Try.underlying40)); exact rfl) | ((with_reducible apply w_lens (ht := Try.underlying47)); exact rfl) | ((with_reducible apply w_lens (ht := Try.underlying48)); exact rfl) | ((with_reducible apply w_lenstr (ht := Try.underlying9)); exact rfl)))
    (refine sq_nil ?_)
    refine for8 (fun k f w6 => RF c s.nxt p f ∧ f 17 = .int .u8 (c.T s.nxt : Nat) ∧ Kp (c.N + 6) [c.N + 3] w5 w6 ∧ (∀ (i : Nat) (es : Array MapEntry) (cl : Nat), w5.heap[i]? = some (Obj.map es cl) → w6.heap[i]? = some (Obj.map es cl)) ∧
        ∃ qa qc, Arr w6 (c.N + 3) 8 49 (fun j => .slice (qa j) (qk c s.nxt k j).length (qc j)) ∧ (∀ j, j < 8 → QRow w6 (c.N + 6) (qa j) (qc j) (qk c s.nxt k j)) ∧
          (∀ i j x y, i < 8 → j < 8 → qa i = some x → qa j = some y → x.block = y.block → i = j)) rfl (by decide) rfl
      ⟨⟨rfl, rfl, rfl, rfl, rfl, rfl, rfl, rfl, rfl, rfl, rfl⟩, rfl, Kp.refl _ _ _, fun i es cl h => h, s.qa, s.qc, hw.q.of_block (k5 _ (by omega) (by omega) (by omega) (by omega)),
        fun j hj => (hw.rows j hj).keep (fun x hx => k5 _ ((hw.rows j hj).lt hx) (by have := ((hw.rows j hj).block hx).1; omega) (by have := ((hw.rows j hj).block hx).1; omega) (by have := ((hw.rows j hj).block hx).1; omega)), hw.apart⟩ ?_ ?_ ?_
    · rintro k f f' w1 ha ⟨h1, h2, rest⟩
      exact ⟨h1.agr ha rfl, (ha 17 rfl).trans h2, rest⟩
    · rintro k f w6 R hk8 fk ⟨hf1, f17, kp6, hmp6, qa, qc, hq6, hrow6, hap6⟩ hR hret
      obtain ⟨g, rfl⟩ : ∃ g, f = upd (upd (rfr c s.nxt p g) 17 (.int .u8 (c.T s.nxt : Nat))) 26 (.int .i64 (k : Int)) := ⟨f, by rw [← hf1.open, ← upd_id f17, ← upd_id fk]⟩
      clear hf1 f17 fk
      refine sq_region ?_
      (repeat (first | ((with_reducible apply w_mv); first | exact (rfl : _ = Value.int _ _) | exact (rfl : _ = Value.bool _) | exact (rfl : _ = Value.slice _ _ _) | exact (rfl : _ = Value.map _) | exact (rfl : _ = Value.pointer _) | exact (rfl : _ = Value.string _) | exact (rfl : _ = Value.tuple _) | exact rfl) | ((with_reducible apply w_as); first | exact (rfl : _ = Value.int _ _) | exact (rfl : _ = Value.bool _) | exact (rfl : _ = Value.slice _ _ _) | exact (rfl : _ = Value.map _) | exact (rfl : _ = Value.pointer _) | exact (rfl : _ = Value.string _) | exact (rfl : _ = Value.tuple _) | exact rfl) | ((with_reducible apply w_ext); exact rfl; exact rfl) | ((with_reducible apply w_not); exact rfl) | ((with_reducible apply w_nc); exact rfl) | ((with_reducible apply w_lss); exact rfl; exact rfl) | ((with_reducible apply w_gtr); exact rfl; exact rfl) | ((with_reducible apply w_geq); exact rfl; exact rfl) | ((with_reducible apply w_eql); exact rfl; exact rfl) | ((with_reducible apply w_neq); exact rfl; exact rfl) | ((with_reducible apply w_seql); exact rfl; exact rfl) | ((with_reducible apply w_sneq); exact rfl; exact rfl) | ((with_reducible apply w_beql (ht := Try.underlying4)); exact rfl; exact rfl) | ((with_reducible apply w_bneq (ht := Try.underlying4)); exact rfl; exact rfl) | ((with_reducible apply w_lens (ht := Try.underlying22)); exact rfl) | ((with_reducible apply w_lens (ht := Try.underlying23)); exact rfl) | ((with_reducible apply w_lens (ht := Try.underlying39)); exact rfl) | ((with_reducible apply w_lens (ht := Try.underlying40)); exact rfl) | ((with_reducible apply w_lens (ht := Try.underlying47)); exact rfl) | ((with_reducible apply w_lens (ht := Try.underlying48)); exact rfl) | ((with_reducible apply w_lenstr (ht := Try.underlying9)); exact rfl)))
      refine w_call2 ok20 ((hasKey_any (c.T s.nxt) k hM hk8 w6).mono ?_) rfl rfl
      rintro e w' ⟨rfl, hw'⟩
      have hw' := hw'.symm
      subst hw'
      refine ⟨_, rfl, ?_⟩
      (refine sq_nil ?_)
      refine cond_s rfl (fun hp => ?_) (fun hp => ?_)
      · have sz6 : c.N + 6 ≤ w6.heap.size := by have := kp6.size; omega
        have hql := qk_len c s.nxt k k
        have k7 : ∀ i, i < w6.heap.size → (w6.alloc (.cells #[.int .i64 (s.nxt : Nat)] 3)).heap[i]? = w6.heap[i]? := (heap_alloc w6 _).2
        have hnewc : (w6.alloc (.cells #[.int .i64 (s.nxt : Nat)] 3)).cell? ⟨w6.heap.size, 0, none⟩ = some (.int .i64 (s.nxt : Nat)) := (cell_of_block (heap_alloc w6 _).1).trans rfl
        have hrow7 : QRow (w6.alloc (.cells #[.int .i64 (s.nxt : Nat)] 3)) (c.N + 6) (qa k) (qc k) (qk c s.nxt k k) := (hrow6 k hk8).keep (fun x hx => k7 _ ((hrow6 k hk8).lt hx))
        refine wp_region_lit ?_
        (repeat (first | ((with_reducible apply w_mv); first | exact (rfl : _ = Value.int _ _) | exact (rfl : _ = Value.bool _) | exact (rfl : _ = Value.slice _ _ _) | exact (rfl : _ = Value.map _) | exact (rfl : _ = Value.pointer _) | exact (rfl : _ = Value.string _) | exact (rfl : _ = Value.tuple _) | exact rfl) | ((with_reducible apply w_as); first | exact (rfl : _ = Value.int _ _) | exact (rfl : _ = Value.bool _) | exact (rfl : _ = Value.slice _ _ _) | exact (rfl : _ = Value.map _) | exact (rfl : _ = Value.pointer _) | exact (rfl : _ = Value.string _) | exact (rfl : _ = Value.tuple _) | exact rfl) | ((with_reducible apply w_ext); exact rfl; exact rfl) | ((with_reducible apply w_not); exact rfl) | ((with_reducible apply w_nc); exact rfl) | ((with_reducible apply w_lss); exact rfl; exact rfl) | ((with_reducible apply w_gtr); exact rfl; exact rfl) | ((with_reducible apply w_geq); exact rfl; exact rfl) | ((with_reducible apply w_eql); exact rfl; exact rfl) | ((with_reducible apply w_neq); exact rfl; exact rfl) | ((with_reducible apply w_seql); exact rfl; exact rfl) | ((with_reducible apply w_sneq); exact rfl; exact rfl) | ((with_reducible apply w_beql (ht := Try.underlying4)); exact rfl; exact rfl) | ((with_reducible apply w_bneq (ht := Try.underlying4)); exact rfl; exact rfl) | ((with_reducible apply w_lens (ht := Try.underlying22)); exact rfl) | ((with_reducible apply w_lens (ht := Try.underlying23)); exact rfl) | ((with_reducible apply w_lens (ht := Try.underlying39)); exact rfl) | ((with_reducible apply w_lens (ht := Try.underlying40)); exact rfl) | ((with_reducible apply w_lens (ht := Try.underlying47)); exact rfl) | ((with_reducible apply w_lens (ht := Try.underlying48)); exact rfl) | ((with_reducible apply w_lenstr (ht := Try.underlying9)); exact rfl)))
        refine wl_val (ex_index_arr Try.underlying49 size48 rfl rfl rfl hk8) ?_
        refine wl_val (ex_load (v := .slice _ _ _) Try.underlying48 rfl rfl (hq6.cell hk8)) ?_
        (repeat (first | ((with_reducible apply w_mv); first | exact (rfl : _ = Value.int _ _) | exact (rfl : _ = Value.bool _) | exact (rfl : _ = Value.slice _ _ _) | exact (rfl : _ = Value.map _) | exact (rfl : _ = Value.pointer _) | exact (rfl : _ = Value.string _) | exact (rfl : _ = Value.tuple _) | exact rfl) | ((with_reducible apply w_as); first | exact (rfl : _ = Value.int _ _) | exact (rfl : _ = Value.bool _) | exact (rfl : _ = Value.slice _ _ _) | exact (rfl : _ = Value.map _) | exact (rfl : _ = Value.pointer _) | exact (rfl : _ = Value.string _) | exact (rfl : _ = Value.tuple _) | exact rfl) | ((with_reducible apply w_ext); exact rfl; exact rfl) | ((with_reducible apply w_not); exact rfl) | ((with_reducible apply w_nc); exact rfl) | ((with_reducible apply w_lss); exact rfl; exact rfl) | ((with_reducible apply w_gtr); exact rfl; exact rfl) | ((with_reducible apply w_geq); exact rfl; exact rfl) | ((with_reducible apply w_eql); exact rfl; exact rfl) | ((with_reducible apply w_neq); exact rfl; exact rfl) | ((with_reducible apply w_seql); exact rfl; exact rfl) | ((with_reducible apply w_sneq); exact rfl; exact rfl) | ((with_reducible apply w_beql (ht := Try.underlying4)); exact rfl; exact rfl) | ((with_reducible apply w_bneq (ht := Try.underlying4)); exact rfl; exact rfl) | ((with_reducible apply w_lens (ht := Try.underlying22)); exact rfl) | ((with_reducible apply w_lens (ht := Try.underlying23)); exact rfl) | ((with_reducible apply w_lens (ht := Try.underlying39)); exact rfl) | ((with_reducible apply w_lens (ht := Try.underlying40)); exact rfl) | ((with_reducible apply w_lens (ht := Try.underlying47)); exact rfl) | ((with_reducible apply w_lens (ht := Try.underlying48)); exact rfl) | ((with_reducible apply w_lenstr (ht := Try.underlying9)); exact rfl)))
        refine wl_val (ex_build48 rfl) ?_
        refine wl_append hrow7 rfl rfl hnewc (by omega) (by simp; omega) fun ao' c' w7 hrow8 hg7 hat7 => ?_
        have sz7 := hg7.size
        have hszal : (w6.alloc (.cells #[.int .i64 (s.nxt : Nat)] 3)).heap.size = w6.heap.size + 1 := by simp
        rw [hszal] at sz7 hat7
        have k8 : ∀ i, i < w6.heap.size → (∀ x, qa k = some x → x.block ≠ i) → w7.heap[i]? = w6.heap[i]? := fun i hi hne => (hg7.block i (by omega) (by
          cases hqa : qa k with
          | none => simp
          | some x => simp; exact fun e => hne x hqa e.symm)).trans (k7 i hi)
        refine wl_val (ex_index_arr Try.underlying49 size48 rfl rfl rfl hk8) ?_
        have hq7 : Arr w7 (c.N + 3) 8 49 (fun j => .slice (qa j) (qk c s.nxt k j).length (qc j)) := hq6.of_block (k8 _ (by omega) (fun x hx => by have := ((hrow6 k hk8).block hx).1; omega))
        refine wl_set (v := .slice ao' ((qk c s.nxt k k).length + 1) c') hq7 hk8 size48 rfl rfl rfl fun w8 ha8 hb8 hs8 hk8' => ?_
        refine wpList_nil (hR _ _ rfl ⟨⟨rfl, rfl, rfl, rfl, rfl, rfl, rfl, rfl, rfl, rfl, rfl⟩, rfl, ?_, ?_, (fun j => if j = k then ao' else qa j), (fun j => if j = k then c' else qc j), ?_, ?_, ?_⟩)
        · refine hk8' _ _ _ (Or.inr (by simp)) (kp6.trans ⟨hg7.os, hg7.tape, hg7.output, by omega, fun i hi _ => k8 i (by omega) (fun x hx => by have := ((hrow6 k hk8).block hx).1; omega)⟩)
        · intro i es cl hi
          have h6 := hmp6 i es cl hi
          have hilt : i < w6.heap.size := (Array.getElem?_eq_some_iff.1 h6).1
          rw [hb8 i (fun e => by rw [e] at h6; unfold Arr at hq6; rw [hq6] at h6; cases h6), k8 i hilt (fun x hx e => by
            obtain ⟨_, cs, hcs⟩ := (hrow6 k hk8).block hx
            rw [e, h6] at hcs
            cases hcs)]
          exact h6
        · refine ha8.congr (fun j hj => ?_)
          by_cases e : j = k
          · subst e
            simp only [if_pos rfl]
            rw [qk_yes hp]
            simp
          · simp only [if_neg e]
            rw [qk_other e]
        · intro j hj
          by_cases e : j = k
          · subst e
            simp only [if_pos rfl]
            rw [qk_yes hp]
            refine hrow8.keep (fun x hx => hb8 _ (fun e1 => ?_))
            have := (hrow8.block hx).1
            omega
          · simp only [if_neg e]
            rw [qk_other e]
            refine (hrow6 j hj).keep (fun x hx => ?_)
            have hxb := ((hrow6 j hj).block hx).1
            rw [hb8 _ (by omega), k8 _ ((hrow6 j hj).lt hx) (fun y hy e1 => e ((hap6 k j y x hk8 hj hy hx e1).symm))]
        · intro i j x y hi hj hx hy hxy
          have hlt6 : ∀ i x, i < 8 → qa i = some x → x.block < w6.heap.size := fun i x hi hx => (hrow6 i hi).lt hx
          by_cases ei : i = k
          · by_cases ej : j = k
            · rw [ei, ej]
            · simp only [if_pos ei] at hx
              simp only [if_neg ej] at hy
              rcases hat7 x hx with h1 | h1
              · rw [ei]; exact hap6 k j x y hk8 hj h1 hy hxy
              · have := hlt6 j y hj hy; omega
          · simp only [if_neg ei] at hx
            by_cases ej : j = k
            · simp only [if_pos ej] at hy
              rcases hat7 y hy with h1 | h1
              · rw [ej]; exact hap6 i k x y hi hk8 hx h1 hxy
              · have := hlt6 i x hi hx; omega
            · simp only [if_neg ej] at hy
              exact hap6 i j x y hi hj hx hy hxy
      · refine wp_skip (hR _ _ rfl ⟨⟨rfl, rfl, rfl, rfl, rfl, rfl, rfl, rfl, rfl, rfl, rfl⟩, rfl, kp6, hmp6, qa, qc, hq6.congr (fun j hj => ?_), fun j hj => ?_, hap6⟩)
        · by_cases e : j = k
          · subst e; rw [qk_no hp]
          · rw [qk_other e]
        · by_cases e : j = k
          · subst e; rw [qk_no hp]; exact hrow6 j hj
          · rw [qk_other e]; exact hrow6 j hj
    rintro f w6 ⟨hf1, f17, kp6, hmp6, qa, qc, hq6, hrow6, hap6⟩
    obtain ⟨g, rfl⟩ : ∃ g, f = rfr c s.nxt p g := ⟨f, hf1.open⟩
    clear hf1 f17
    have hk6 : ∀ j, j < 8 → qk c s.nxt 8 j = qs c.T (s.nxt + 1) j := fun j hj => by unfold qk; rw [if_pos hj]
    have k6 : ∀ i, i < c.N + 6 → i ≠ c.N + 3 → w6.heap[i]? = w5.heap[i]? := fun i hi h3 => kp6.block i hi (by simpa using h3)
    refine xt_n (wp_region_lit ?_)
    (repeat (first | ((with_reducible apply w_mv); first | exact (rfl : _ = Value.int _ _) | exact (rfl : _ = Value.bool _) | exact (rfl : _ = Value.slice _ _ _) | exact (rfl : _ = Value.map _) | exact (rfl : _ = Value.pointer _) | exact (rfl : _ = Value.string _) | exact (rfl : _ = Value.tuple _) | exact rfl) | ((with_reducible apply w_as); first | exact (rfl : _ = Value.int _ _) | exact (rfl : _ = Value.bool _) | exact (rfl : _ = Value.slice _ _ _) | exact (rfl : _ = Value.map _) | exact (rfl : _ = Value.pointer _) | exact (rfl : _ = Value.string _) | exact (rfl : _ = Value.tuple _) | exact rfl) | ((with_reducible apply w_ext); exact rfl; exact rfl) | ((with_reducible apply w_not); exact rfl) | ((with_reducible apply w_nc); exact rfl) | ((with_reducible apply w_lss); exact rfl; exact rfl) | ((with_reducible apply w_gtr); exact rfl; exact rfl) | ((with_reducible apply w_geq); exact rfl; exact rfl) | ((with_reducible apply w_eql); exact rfl; exact rfl) | ((with_reducible apply w_neq); exact rfl; exact rfl) | ((with_reducible apply w_seql); exact rfl; exact rfl) | ((with_reducible apply w_sneq); exact rfl; exact rfl) | ((with_reducible apply w_beql (ht := Try.underlying4)); exact rfl; exact rfl) | ((with_reducible apply w_bneq (ht := Try.underlying4)); exact rfl; exact rfl) | ((with_reducible apply w_lens (ht := Try.underlying22)); exact rfl) | ((with_reducible apply w_lens (ht := Try.underlying23)); exact rfl) | ((with_reducible apply w_lens (ht := Try.underlying39)); exact rfl) | ((with_reducible apply w_lens (ht := Try.underlying40)); exact rfl) | ((with_reducible apply w_lens (ht := Try.underlying47)); exact rfl) | ((with_reducible apply w_lens (ht := Try.underlying48)); exact rfl) | ((with_reducible apply w_lenstr (ht := Try.underlying9)); exact rfl)))
    refine wl_val (ex_addi (c := ((s.nxt + 1 : Nat) : Int)) rfl rfl (by omega) (by omega)) ?_
    (repeat (first | ((with_reducible apply w_mv); first | exact (rfl : _ = Value.int _ _) | exact (rfl : _ = Value.bool _) | exact (rfl : _ = Value.slice _ _ _) | exact (rfl : _ = Value.map _) | exact (rfl : _ = Value.pointer _) | exact (rfl : _ = Value.string _) | exact (rfl : _ = Value.tuple _) | exact rfl) | ((with_reducible apply w_as); first | exact (rfl : _ = Value.int _ _) | exact (rfl : _ = Value.bool _) | exact (rfl : _ = Value.slice _ _ _) | exact (rfl : _ = Value.map _) | exact (rfl : _ = Value.pointer _) | exact (rfl : _ = Value.string _) | exact (rfl : _ = Value.tuple _) | exact rfl) | ((with_reducible apply w_ext); exact rfl; exact rfl) | ((with_reducible apply w_not); exact rfl) | ((with_reducible apply w_nc); exact rfl) | ((with_reducible apply w_lss); exact rfl; exact rfl) | ((with_reducible apply w_gtr); exact rfl; exact rfl) | ((with_reducible apply w_geq); exact rfl; exact rfl) | ((with_reducible apply w_eql); exact rfl; exact rfl) | ((with_reducible apply w_neq); exact rfl; exact rfl) | ((with_reducible apply w_seql); exact rfl; exact rfl) | ((with_reducible apply w_sneq); exact rfl; exact rfl) | ((with_reducible apply w_beql (ht := Try.underlying4)); exact rfl; exact rfl) | ((with_reducible apply w_bneq (ht := Try.underlying4)); exact rfl; exact rfl) | ((with_reducible apply w_lens (ht := Try.underlying22)); exact rfl) | ((with_reducible apply w_lens (ht := Try.underlying23)); exact rfl) | ((with_reducible apply w_lens (ht := Try.underlying39)); exact rfl) | ((with_reducible apply w_lens (ht := Try.underlying40)); exact rfl) | ((with_reducible apply w_lens (ht := Try.underlying47)); exact rfl) | ((with_reducible apply w_lens (ht := Try.underlying48)); exact rfl) | ((with_reducible apply w_lenstr (ht := Try.underlying9)); exact rfl)))
    refine wpList_nil (hnorm _ w6 ⟨s.nxt + 1, sc', s.hd, s.dn, m', (fun i => if i = s.nxt then wm else s.wl i), (fun i => if i = s.nxt then w.heap.size + 2 else s.wbk i), qa, qc⟩ ⟨rfl, rfl, rfl, rfl, rfl, rfl, rfl, rfl, rfl, rfl, rfl⟩ ⟨?_, ?_, ?_, ?_, ?_, ?_, ?_, hap6, ?_, ?_, hlt, hinv'⟩)
    · exact kpN5.trans (kp6.mono (by omega) (fun k hk hm => by simp at hm; omega))
    · have := kp6.size; omega
    · exact app4.keep ((k6 _ (by omega) (by omega)).trans (hb5 _ (by omega))) ((k6 _ (by omega) (by omega)).trans (hb5 _ (by omega)))
    · refine (ws5.of_block (k6 _ (by omega) (by omega))).congr (fun i hi => ?_)
      by_cases e : i = s.nxt
      · subst e; simp
      · have h1 : (i < s.nxt + 1) = (i < s.nxt) := by apply propext; omega
        simp only [if_neg e, h1]
    · intro i hi
      by_cases e : i = s.nxt
      · subst e
        simp only [↓reduceIte]
        exact ⟨(hwm4.of_block (hb5 _ (by omega))).keepmap (hmp6 _), by omega⟩
      · simp only [if_neg e]
        have hmi := hw.maps i (by have : i < s.nxt + 1 := hi; omega)
        exact ⟨(hmi.1.of_block (k5 _ hmi.1.lt (by omega) (by omega) (by omega))).keepmap (hmp6 _), hmi.2⟩
    · exact hq6.congr (fun j hj => by rw [hk6 j hj])
    · intro j hj
      have := hrow6 j hj
      rw [hk6 j hj] at this
      exact this
    · exact (hw.hda.of_block (k5 _ (by omega) (by omega) (by omega) (by omega))).of_block (k6 _ (by omega) (by omega))
    · exact (sc4.of_block (hb5 _ (by omega))).of_block (k6 _ (by omega) (by omega))
  refine sq_region ?_
  (repeat (first | ((with_reducible apply w_mv); first | exact (rfl : _ = Value.int _ _) | exact (rfl : _ = Value.bool _) | exact (rfl : _ = Value.slice _ _ _) | exact (rfl : _ = Value.map _) | exact (rfl : _ = Value.pointer _) | exact (rfl : _ = Value.string _) | exact (rfl : _ = Value.tuple _) | exact rfl) | ((with_reducible apply w_as); first | exact (rfl : _ = Value.int _ _) | exact (rfl : _ = Value.bool _) | exact (rfl : _ = Value.slice _ _ _) | exact (rfl : _ = Value.map _) | exact (rfl : _ = Value.pointer _) | exact (rfl : _ = Value.string _) | exact (rfl : _ = Value.tuple _) | exact rfl) | ((with_reducible apply w_ext); exact rfl; exact rfl) | ((with_reducible apply w_not); exact rfl) | ((with_reducible apply w_nc); exact rfl) | ((with_reducible apply w_lss); exact rfl; exact rfl) | ((with_reducible apply w_gtr); exact rfl; exact rfl) | ((with_reducible apply w_geq); exact rfl; exact rfl) | ((with_reducible apply w_eql); exact rfl; exact rfl) | ((with_reducible apply w_neq); exact rfl; exact rfl) | ((with_reducible apply w_seql); exact rfl; exact rfl) | ((with_reducible apply w_sneq); exact rfl; exact rfl) | ((with_reducible apply w_beql (ht := Try.underlying4)); exact rfl; exact rfl) | ((with_reducible apply w_bneq (ht := Try.underlying4)); exact rfl; exact rfl) | ((with_reducible apply w_lens (ht := Try.underlying22)); exact rfl) | ((with_reducible apply w_lens (ht := Try.underlying23)); exact rfl) | ((with_reducible apply w_lens (ht := Try.underlying39)); exact rfl) | ((with_reducible apply w_lens (ht := Try.underlying40)); exact rfl) | ((with_reducible apply w_lens (ht := Try.underlying47)); exact rfl) | ((with_reducible apply w_lens (ht := Try.underlying48)); exact rfl) | ((with_reducible apply w_lenstr (ht := Try.underlying9)); exact rfl)))
  (refine sq_nil ?_)
  refine cond_s rfl (fun hp => ?_) (fun hp => ?_)
  · have hz : c.T s.nxt = 0 := by have := of_decide_eq_true hp; omega
    refine sq_region ?_
    (repeat (first | ((with_reducible apply w_mv); first | exact (rfl : _ = Value.int _ _) | exact (rfl : _ = Value.bool _) | exact (rfl : _ = Value.slice _ _ _) | exact (rfl : _ = Value.map _) | exact (rfl : _ = Value.pointer _) | exact (rfl : _ = Value.string _) | exact (rfl : _ = Value.tuple _) | exact rfl) | ((with_reducible apply w_as); first | exact (rfl : _ = Value.int _ _) | exact (rfl : _ = Value.bool _) | exact (rfl : _ = Value.slice _ _ _) | exact (rfl : _ = Value.map _) | exact (rfl : _ = Value.pointer _) | exact (rfl : _ = Value.string _) | exact (rfl : _ = Value.tuple _) | exact rfl) | ((with_reducible apply w_ext); exact rfl; exact rfl) | ((with_reducible apply w_not); exact rfl) | ((with_reducible apply w_nc); exact rfl) | ((with_reducible apply w_lss); exact rfl; exact rfl) | ((with_reducible apply w_gtr); exact rfl; exact rfl) | ((with_reducible apply w_geq); exact rfl; exact rfl) | ((with_reducible apply w_eql); exact rfl; exact rfl) | ((with_reducible apply w_neq); exact rfl; exact rfl) | ((with_reducible apply w_seql); exact rfl; exact rfl) | ((with_reducible apply w_sneq); exact rfl; exact rfl) | ((with_reducible apply w_beql (ht := Try.underlying4)); exact rfl; exact rfl) | ((with_reducible apply w_bneq (ht := Try.underlying4)); exact rfl; exact rfl) | ((with_reducible apply w_lens (ht := Try.underlying22)); exact rfl) | ((with_reducible apply w_lens (ht := Try.underlying23)); exact rfl) | ((with_reducible apply w_lens (ht := Try.underlying39)); exact rfl) | ((with_reducible apply w_lens (ht := Try.underlying40)); exact rfl) | ((with_reducible apply w_lens (ht := Try.underlying47)); exact rfl) | ((with_reducible apply w_lens (ht := Try.underlying48)); exact rfl) | ((with_reducible apply w_lenstr (ht := Try.underlying9)); exact rfl)))
    refine w_call2 ok13 ((waiting_any (c.N + 1) c.N (w.heap.size + 2) m' wm w3 app3 hwm).mono ?_) rfl (by rw [sz2]; rfl)
    rintro e w4 ⟨kp4, hq | ⟨k, n, hk, _⟩⟩
    rotate_left
    · have := (hkeys k).2 (by rw [hz, names_zero]; simp)
      rw [this] at hk
      cases hk
    obtain ⟨rfl, _⟩ := hq
    refine ⟨_, rfl, ?_⟩
    (repeat (first | ((with_reducible apply w_mv); first | exact (rfl : _ = Value.int _ _) | exact (rfl : _ = Value.bool _) | exact (rfl : _ = Value.slice _ _ _) | exact (rfl : _ = Value.map _) | exact (rfl : _ = Value.pointer _) | exact (rfl : _ = Value.string _) | exact (rfl : _ = Value.tuple _) | exact rfl) | ((with_reducible apply w_as); first | exact (rfl : _ = Value.int _ _) | exact (rfl : _ = Value.bool _) | exact (rfl : _ = Value.slice _ _ _) | exact (rfl : _ = Value.map _) | exact (rfl : _ = Value.pointer _) | exact (rfl : _ = Value.string _) | exact (rfl : _ = Value.tuple _) | exact rfl) | ((with_reducible apply w_ext); exact rfl; exact rfl) | ((with_reducible apply w_not); exact rfl) | ((with_reducible apply w_nc); exact rfl) | ((with_reducible apply w_lss); exact rfl; exact rfl) | ((with_reducible apply w_gtr); exact rfl; exact rfl) | ((with_reducible apply w_geq); exact rfl; exact rfl) | ((with_reducible apply w_eql); exact rfl; exact rfl) | ((with_reducible apply w_neq); exact rfl; exact rfl) | ((with_reducible apply w_seql); exact rfl; exact rfl) | ((with_reducible apply w_sneq); exact rfl; exact rfl) | ((with_reducible apply w_beql (ht := Try.underlying4)); exact rfl; exact rfl) | ((with_reducible apply w_bneq (ht := Try.underlying4)); exact rfl; exact rfl) | ((with_reducible apply w_lens (ht := Try.underlying22)); exact rfl) | ((with_reducible apply w_lens (ht := Try.underlying23)); exact rfl) | ((with_reducible apply w_lens (ht := Try.underlying39)); exact rfl) | ((with_reducible apply w_lens (ht := Try.underlying40)); exact rfl) | ((with_reducible apply w_lens (ht := Try.underlying47)); exact rfl) | ((with_reducible apply w_lens (ht := Try.underlying48)); exact rfl) | ((with_reducible apply w_lenstr (ht := Try.underlying9)); exact rfl)))
    (refine sq_nil ?_)
    refine sq_region ?_
    (repeat (first | ((with_reducible apply w_mv); first | exact (rfl : _ = Value.int _ _) | exact (rfl : _ = Value.bool _) | exact (rfl : _ = Value.slice _ _ _) | exact (rfl : _ = Value.map _) | exact (rfl : _ = Value.pointer _) | exact (rfl : _ = Value.string _) | exact (rfl : _ = Value.tuple _) | exact rfl) | ((with_reducible apply w_as); first | exact (rfl : _ = Value.int _ _) | exact (rfl : _ = Value.bool _) | exact (rfl : _ = Value.slice _ _ _) | exact (rfl : _ = Value.map _) | exact (rfl : _ = Value.pointer _) | exact (rfl : _ = Value.string _) | exact (rfl : _ = Value.tuple _) | exact rfl) | ((with_reducible apply w_ext); exact rfl; exact rfl) | ((with_reducible apply w_not); exact rfl) | ((with_reducible apply w_nc); exact rfl) | ((with_reducible apply w_lss); exact rfl; exact rfl) | ((with_reducible apply w_gtr); exact rfl; exact rfl) | ((with_reducible apply w_geq); exact rfl; exact rfl) | ((with_reducible apply w_eql); exact rfl; exact rfl) | ((with_reducible apply w_neq); exact rfl; exact rfl) | ((with_reducible apply w_seql); exact rfl; exact rfl) | ((with_reducible apply w_sneq); exact rfl; exact rfl) | ((with_reducible apply w_beql (ht := Try.underlying4)); exact rfl; exact rfl) | ((with_reducible apply w_bneq (ht := Try.underlying4)); exact rfl; exact rfl) | ((with_reducible apply w_lens (ht := Try.underlying22)); exact rfl) | ((with_reducible apply w_lens (ht := Try.underlying23)); exact rfl) | ((with_reducible apply w_lens (ht := Try.underlying39)); exact rfl) | ((with_reducible apply w_lens (ht := Try.underlying40)); exact rfl) | ((with_reducible apply w_lens (ht := Try.underlying47)); exact rfl) | ((with_reducible apply w_lens (ht := Try.underlying48)); exact rfl) | ((with_reducible apply w_lenstr (ht := Try.underlying9)); exact rfl)))
    refine v_mv rfl rfl rfl rfl (v := .string _) rfl ?_
    refine v_sneq rfl rfl rfl rfl rfl rfl ?_
    refine w_pickn rfl (v := .bool _) rfl ?_
    (refine sq_nil ?_)
    refine cond_n rfl rfl (wp_skip (xt_n (fin _ w4 ⟨rfl, rfl, rfl, rfl, rfl, rfl, rfl, rfl, rfl, rfl, rfl⟩ rfl (by rw [← sz2]; rfl) kp4)))
  · exact wp_skip (xt_n (fin _ w3 ⟨rfl, rfl, rfl, rfl, rfl, rfl, rfl, rfl, rfl, rfl, rfl⟩ rfl (by rw [← sz2]; rfl) (Kp.refl _ _ _)))
end Go.Proofs.Qxb6600002a
