/-
  runFree: the branch that takes the next transaction.
-/
import Derived.Test.Qxb6600002aFreeW
namespace Go.Proofs.Qxb6600002a
set_option linter.unusedSimpArgs false
set_option linter.unusedVariables false
open Go.MapKept Go.ChangeMaps Go.RowKit

/-- The deps that the first k keys of the mask make. -/
def DFree (M k : Nat) (dm : List (ByteArray × Nat)) : Prop :=
  (∀ i, i < k → M.testBit i = true → ∃ n, mget dm (kn i) = some n ∧ n < 18446744073709551616) ∧ (∀ x, mget dm x ≠ none → ∃ i, i < k ∧ M.testBit i = true ∧ kn i = x) ∧ ∀ q ∈ dm, q.2 < 18446744073709551616

theorem ex_remn {P : Program} {n : Nat} {f : Nat → Value} {w : World} {ty : TypeId} {pos : String} {aft : Array Edge} {d : Option Tmp} {g : Option (Nat × Bool)} {x y : Operand} {t t' : TypeId} {i j : Nat} (hx : ev n f x = .int .i64 (i : Nat)) (hy : ev n f y = .int .i64 (j : Nat)) (hj : 0 < j) :
    (execOp (ev n f) ⟨d, .binOp .rem t x y t', ty, pos, aft, g⟩).run P w = .ok (.value (.int .i64 ((i % j : Nat) : Int))) w := by
  rw [ex_rem hx hy (by omega)]
  rfl

set_option maxHeartbeats 8000000 in
theorem take25 (c : FC) (hc : c.ok) (s : FSt) (p o : Nat) (f : Nat → Value) (w : World) (Q : Exit → Act → World → Prop) (hf : FF c s.nxt s.pend.length p o f) (hp8 : p ≤ 8 * s.nxt) (hw : FW c s w)
    (hnorm : ∀ f' w' s' p', FF c s'.nxt s'.pend.length p' o f' → p' ≤ 8 * s'.nxt → FW c s' w' → Q .normal (Fr 228 f') w') (hcont : ∀ f', FF c s.nxt s.pend.length p o f' → Q (.exit 1) (Fr 228 f') w) :
    Code.wp Try.prog (part_ (Try.f25.body.getD .skip) [1, 1, 1, 1, 1, 1, 1, 1, 0, 1, 2, 3, 1, 0, 2, 1, 0, 1, 4]) Q (Fr 228 f) w := by
  have lenT := hc.lenT
  have lenN := hc.lenN
  have hle := hw.le
  have hsz := hw.size
  have hpl := hw.inv.pln
  rw [hf.open]
  generalize f = g
  refine wp_seq (sq_region ?_)
  (repeat (first | ((with_reducible apply w_mv); first | exact (rfl : _ = Value.int _ _) | exact (rfl : _ = Value.bool _) | exact (rfl : _ = Value.slice _ _ _) | exact (rfl : _ = Value.map _) | exact (rfl : _ = Value.pointer _) | exact (rfl : _ = Value.string _) | exact (rfl : _ = Value.tuple _) | exact rfl) | ((with_reducible apply w_as); first | exact (rfl : _ = Value.int _ _) | exact (rfl : _ = Value.bool _) | exact (rfl : _ = Value.slice _ _ _) | exact (rfl : _ = Value.map _) | exact (rfl : _ = Value.pointer _) | exact (rfl : _ = Value.string _) | exact (rfl : _ = Value.tuple _) | exact rfl) | ((with_reducible apply w_ext); exact rfl; exact rfl) | ((with_reducible apply w_not); exact rfl) | ((with_reducible apply w_nc); exact rfl) | ((with_reducible apply w_lss); exact rfl; exact rfl) | ((with_reducible apply w_gtr); exact rfl; exact rfl) | ((with_reducible apply w_geq); exact rfl; exact rfl) | ((with_reducible apply w_eql); exact rfl; exact rfl) | ((with_reducible apply w_neq); exact rfl; exact rfl) | ((with_reducible apply w_seql); exact rfl; exact rfl) | ((with_reducible apply w_sneq); exact rfl; exact rfl) | ((with_reducible apply w_beql (ht := Try.underlying4)); exact rfl; exact rfl) | ((with_reducible apply w_bneq (ht := Try.underlying4)); exact rfl; exact rfl) | ((with_reducible apply w_lens (ht := Try.underlying22)); exact rfl) | ((with_reducible apply w_lens (ht := Try.underlying23)); exact rfl) | ((with_reducible apply w_lens (ht := Try.underlying39)); exact rfl) | ((with_reducible apply w_lens (ht := Try.underlying40)); exact rfl) | ((with_reducible apply w_lens (ht := Try.underlying47)); exact rfl) | ((with_reducible apply w_lens (ht := Try.underlying48)); exact rfl) | ((with_reducible apply w_lenstr (ht := Try.underlying9)); exact rfl)))
  (refine sq_nil ?_)
  refine cond_s rfl (fun hp => ?_) (fun hp => ?_)
  · exact wp_exit (xt_exit (hcont _ ⟨rfl, rfl, rfl, rfl, rfl, rfl, rfl, rfl, rfl, rfl, rfl, rfl⟩))
  have hlt : s.nxt < c.tx.length := by have := of_decide_eq_false hp; omega
  clear hp hcont
  obtain ⟨x, hx, hcell⟩ := hc.cellT hw.kp hlt
  have hM := hc.t256 s.nxt
  refine wp_skip (xt_n (sq_region ?_))
  (repeat (first | ((with_reducible apply w_mv); first | exact (rfl : _ = Value.int _ _) | exact (rfl : _ = Value.bool _) | exact (rfl : _ = Value.slice _ _ _) | exact (rfl : _ = Value.map _) | exact (rfl : _ = Value.pointer _) | exact (rfl : _ = Value.string _) | exact (rfl : _ = Value.tuple _) | exact rfl) | ((with_reducible apply w_as); first | exact (rfl : _ = Value.int _ _) | exact (rfl : _ = Value.bool _) | exact (rfl : _ = Value.slice _ _ _) | exact (rfl : _ = Value.map _) | exact (rfl : _ = Value.pointer _) | exact (rfl : _ = Value.string _) | exact (rfl : _ = Value.tuple _) | exact rfl) | ((with_reducible apply w_ext); exact rfl; exact rfl) | ((with_reducible apply w_not); exact rfl) | ((with_reducible apply w_nc); exact rfl) | ((with_reducible apply w_lss); exact rfl; exact rfl) | ((with_reducible apply w_gtr); exact rfl; exact rfl) | ((with_reducible apply w_geq); exact rfl; exact rfl) | ((with_reducible apply w_eql); exact rfl; exact rfl) | ((with_reducible apply w_neq); exact rfl; exact rfl) | ((with_reducible apply w_seql); exact rfl; exact rfl) | ((with_reducible apply w_sneq); exact rfl; exact rfl) | ((with_reducible apply w_beql (ht := Try.underlying4)); exact rfl; exact rfl) | ((with_reducible apply w_bneq (ht := Try.underlying4)); exact rfl; exact rfl) | ((with_reducible apply w_lens (ht := Try.underlying22)); exact rfl) | ((with_reducible apply w_lens (ht := Try.underlying23)); exact rfl) | ((with_reducible apply w_lens (ht := Try.underlying39)); exact rfl) | ((with_reducible apply w_lens (ht := Try.underlying40)); exact rfl) | ((with_reducible apply w_lens (ht := Try.underlying47)); exact rfl) | ((with_reducible apply w_lens (ht := Try.underlying48)); exact rfl) | ((with_reducible apply w_lenstr (ht := Try.underlying9)); exact rfl)))
  refine wl_val (ex_index (ad := x) Try.underlying39 size5 (by rw [← hx]; rfl) rfl rfl hlt) ?_
  refine wl_val (ex_load (v := .int .u8 _) Try.underlying5 rfl rfl hcell) ?_
  (repeat (first | ((with_reducible apply w_mv); first | exact (rfl : _ = Value.int _ _) | exact (rfl : _ = Value.bool _) | exact (rfl : _ = Value.slice _ _ _) | exact (rfl : _ = Value.map _) | exact (rfl : _ = Value.pointer _) | exact (rfl : _ = Value.string _) | exact (rfl : _ = Value.tuple _) | exact rfl) | ((with_reducible apply w_as); first | exact (rfl : _ = Value.int _ _) | exact (rfl : _ = Value.bool _) | exact (rfl : _ = Value.slice _ _ _) | exact (rfl : _ = Value.map _) | exact (rfl : _ = Value.pointer _) | exact (rfl : _ = Value.string _) | exact (rfl : _ = Value.tuple _) | exact rfl) | ((with_reducible apply w_ext); exact rfl; exact rfl) | ((with_reducible apply w_not); exact rfl) | ((with_reducible apply w_nc); exact rfl) | ((with_reducible apply w_lss); exact rfl; exact rfl) | ((with_reducible apply w_gtr); exact rfl; exact rfl) | ((with_reducible apply w_geq); exact rfl; exact rfl) | ((with_reducible apply w_eql); exact rfl; exact rfl) | ((with_reducible apply w_neq); exact rfl; exact rfl) | ((with_reducible apply w_seql); exact rfl; exact rfl) | ((with_reducible apply w_sneq); exact rfl; exact rfl) | ((with_reducible apply w_beql (ht := Try.underlying4)); exact rfl; exact rfl) | ((with_reducible apply w_bneq (ht := Try.underlying4)); exact rfl; exact rfl) | ((with_reducible apply w_lens (ht := Try.underlying22)); exact rfl) | ((with_reducible apply w_lens (ht := Try.underlying23)); exact rfl) | ((with_reducible apply w_lens (ht := Try.underlying39)); exact rfl) | ((with_reducible apply w_lens (ht := Try.underlying40)); exact rfl) | ((with_reducible apply w_lens (ht := Try.underlying47)); exact rfl) | ((with_reducible apply w_lens (ht := Try.underlying48)); exact rfl) | ((with_reducible apply w_lenstr (ht := Try.underlying9)); exact rfl)))
  (refine sq_nil ?_)
  refine sq_region ?_
  refine wl_val (ex_makeMap Try.underlying28 rfl) ?_
  (repeat (first | ((with_reducible apply w_mv); first | exact (rfl : _ = Value.int _ _) | exact (rfl : _ = Value.bool _) | exact (rfl : _ = Value.slice _ _ _) | exact (rfl : _ = Value.map _) | exact (rfl : _ = Value.pointer _) | exact (rfl : _ = Value.string _) | exact (rfl : _ = Value.tuple _) | exact rfl) | ((with_reducible apply w_as); first | exact (rfl : _ = Value.int _ _) | exact (rfl : _ = Value.bool _) | exact (rfl : _ = Value.slice _ _ _) | exact (rfl : _ = Value.map _) | exact (rfl : _ = Value.pointer _) | exact (rfl : _ = Value.string _) | exact (rfl : _ = Value.tuple _) | exact rfl) | ((with_reducible apply w_ext); exact rfl; exact rfl) | ((with_reducible apply w_not); exact rfl) | ((with_reducible apply w_nc); exact rfl) | ((with_reducible apply w_lss); exact rfl; exact rfl) | ((with_reducible apply w_gtr); exact rfl; exact rfl) | ((with_reducible apply w_geq); exact rfl; exact rfl) | ((with_reducible apply w_eql); exact rfl; exact rfl) | ((with_reducible apply w_neq); exact rfl; exact rfl) | ((with_reducible apply w_seql); exact rfl; exact rfl) | ((with_reducible apply w_sneq); exact rfl; exact rfl) | ((with_reducible apply w_beql (ht := Try.underlying4)); exact rfl; exact rfl) | ((with_reducible apply w_bneq (ht := Try.underlying4)); exact rfl; exact rfl) | ((with_reducible apply w_lens (ht := Try.underlying22)); exact rfl) | ((with_reducible apply w_lens (ht := Try.underlying23)); exact rfl) | ((with_reducible apply w_lens (ht := Try.underlying39)); exact rfl) | ((with_reducible apply w_lens (ht := Try.underlying40)); exact rfl) | ((with_reducible apply w_lens (ht := Try.underlying47)); exact rfl) | ((with_reducible apply w_lens (ht := Try.underlying48)); exact rfl) | ((with_reducible apply w_lenstr (ht := Try.underlying9)); exact rfl)))
  (refine sq_nil ?_)
  generalize hwa : w.alloc (.map #[] 0) = wa
  have sza : wa.heap.size = w.heap.size + 1 := by rw [← hwa]; simp
  have kpa : Kp w.heap.size [] w wa := by rw [← hwa]; exact (Kp.refl _ _ w).alloc (Nat.le_refl _) _
  have mapa : MapAt encU wa w.heap.size [] := by rw [← hwa]; exact MapAt.made encU w
  clear hwa
  refine wp_seq (sq_region ?_)
  (repeat (first | ((with_reducible apply w_mv); first | exact (rfl : _ = Value.int _ _) | exact (rfl : _ = Value.bool _) | exact (rfl : _ = Value.slice _ _ _) | exact (rfl : _ = Value.map _) | exact (rfl : _ = Value.pointer _) | exact (rfl : _ = Value.string _) | exact (rfl : _ = Value.tuple _) | exact rfl) | ((with_reducible apply w_as); first | exact (rfl : _ = Value.int _ _) | exact (rfl : _ = Value.bool _) | exact (rfl : _ = Value.slice _ _ _) | exact (rfl : _ = Value.map _) | exact (rfl : _ = Value.pointer _) | exact (rfl : _ = Value.string _) | exact (rfl : _ = Value.tuple _) | exact rfl) | ((with_reducible apply w_ext); exact rfl; exact rfl) | ((with_reducible apply w_not); exact rfl) | ((with_reducible apply w_nc); exact rfl) | ((with_reducible apply w_lss); exact rfl; exact rfl) | ((with_reducible apply w_gtr); exact rfl; exact rfl) | ((with_reducible apply w_geq); exact rfl; exact rfl) | ((with_reducible apply w_eql); exact rfl; exact rfl) | ((with_reducible apply w_neq); exact rfl; exact rfl) | ((with_reducible apply w_seql); exact rfl; exact rfl) | ((with_reducible apply w_sneq); exact rfl; exact rfl) | ((with_reducible apply w_beql (ht := Try.underlying4)); exact rfl; exact rfl) | ((with_reducible apply w_bneq (ht := Try.underlying4)); exact rfl; exact rfl) | ((with_reducible apply w_lens (ht := Try.underlying22)); exact rfl) | ((with_reducible apply w_lens (ht := Try.underlying23)); exact rfl) | ((with_reducible apply w_lens (ht := Try.underlying39)); exact rfl) | ((with_reducible apply w_lens (ht := Try.underlying40)); exact rfl) | ((with_reducible apply w_lens (ht := Try.underlying47)); exact rfl) | ((with_reducible apply w_lens (ht := Try.underlying48)); exact rfl) | ((with_reducible apply w_lenstr (ht := Try.underlying9)); exact rfl)))
  (refine sq_nil ?_)
  -- the deps
  refine for8 (fun k f w1 => (∃ p', FF c s.nxt s.pend.length p' o f ∧ p' ≤ p + k) ∧ f 18 = .int .u8 (c.T s.nxt : Nat) ∧ f 19 = .map (some w.heap.size) ∧ Kp w.heap.size [] w w1 ∧ w1.heap.size = w.heap.size + 1 ∧
      ∃ dm, MapAt encU w1 w.heap.size dm ∧ DFree (c.T s.nxt) k dm) rfl (by decide) rfl
    ⟨⟨p, ⟨rfl, rfl, rfl, rfl, rfl, rfl, rfl, rfl, rfl, rfl, rfl, rfl⟩, Nat.le_refl _⟩, rfl, rfl, kpa, sza, [], mapa, fun i hi => by omega, fun x hx => absurd rfl hx, by simp⟩ ?_ ?_ ?_
  · rintro k f f' w1 ha ⟨⟨p', h1, hle1⟩, h2, h3, rest⟩
    exact ⟨⟨p', h1.agr ha rfl, hle1⟩, (ha 18 rfl).trans h2, (ha 19 rfl).trans h3, rest⟩
  · rintro k f w1 R hk8 fk ⟨⟨p', hf1, hp'⟩, f18, f19, kp1, sz1, dm, hdm, hds⟩ hR hret
    obtain ⟨g, rfl⟩ : ∃ g, f = upd (upd (upd (ffr c s.nxt s.pend.length p' o g) 18 (.int .u8 (c.T s.nxt : Nat))) 19 (.map (some w.heap.size))) 20 (.int .i64 (k : Int)) := ⟨f, by rw [← hf1.open, ← upd_id f18, ← upd_id f19, ← upd_id fk]⟩
    clear hf1 f18 f19 fk
    have kpN : Kp c.N [] c.wN w1 := hw.kp.trans (kp1.mono (by omega) (by simp))
    refine sq_region ?_
    (repeat (first | ((with_reducible apply w_mv); first | exact (rfl : _ = Value.int _ _) | exact (rfl : _ = Value.bool _) | exact (rfl : _ = Value.slice _ _ _) | exact (rfl : _ = Value.map _) | exact (rfl : _ = Value.pointer _) | exact (rfl : _ = Value.string _) | exact (rfl : _ = Value.tuple _) | exact rfl) | ((with_reducible apply w_as); first | exact (rfl : _ = Value.int _ _) | exact (rfl : _ = Value.bool _) | exact (rfl : _ = Value.slice _ _ _) | exact (rfl : _ = Value.map _) | exact (rfl : _ = Value.pointer _) | exact (rfl : _ = Value.string _) | exact (rfl : _ = Value.tuple _) | exact rfl) | ((with_reducible apply w_ext); exact rfl; exact rfl) | ((with_reducible apply w_not); exact rfl) | ((with_reducible apply w_nc); exact rfl) | ((with_reducible apply w_lss); exact rfl; exact rfl) | ((with_reducible apply w_gtr); exact rfl; exact rfl) | ((with_reducible apply w_geq); exact rfl; exact rfl) | ((with_reducible apply w_eql); exact rfl; exact rfl) | ((with_reducible apply w_neq); exact rfl; exact rfl) | ((with_reducible apply w_seql); exact rfl; exact rfl) | ((with_reducible apply w_sneq); exact rfl; exact rfl) | ((with_reducible apply w_beql (ht := Try.underlying4)); exact rfl; exact rfl) | ((with_reducible apply w_bneq (ht := Try.underlying4)); exact rfl; exact rfl) | ((with_reducible apply w_lens (ht := Try.underlying22)); exact rfl) | ((with_reducible apply w_lens (ht := Try.underlying23)); exact rfl) | ((with_reducible apply w_lens (ht := Try.underlying39)); exact rfl) | ((with_reducible apply w_lens (ht := Try.underlying40)); exact rfl) | ((with_reducible apply w_lens (ht := Try.underlying47)); exact rfl) | ((with_reducible apply w_lens (ht := Try.underlying48)); exact rfl) | ((with_reducible apply w_lenstr (ht := Try.underlying9)); exact rfl)))
    refine w_call2 ok20 ((hasKey_any (c.T s.nxt) k hM hk8 w1).mono ?_) rfl rfl
    rintro e w' ⟨rfl, hw'⟩
    have hw' := hw'.symm
    subst hw'
    refine ⟨_, rfl, ?_⟩
    (refine sq_nil ?_)
    refine cond_s rfl (fun hp => ?_) (fun hp => ?_)
    · refine sq_region ?_
      (repeat (first | ((with_reducible apply w_mv); first | exact (rfl : _ = Value.int _ _) | exact (rfl : _ = Value.bool _) | exact (rfl : _ = Value.slice _ _ _) | exact (rfl : _ = Value.map _) | exact (rfl : _ = Value.pointer _) | exact (rfl : _ = Value.string _) | exact (rfl : _ = Value.tuple _) | exact rfl) | ((with_reducible apply w_as); first | exact (rfl : _ = Value.int _ _) | exact (rfl : _ = Value.bool _) | exact (rfl : _ = Value.slice _ _ _) | exact (rfl : _ = Value.map _) | exact (rfl : _ = Value.pointer _) | exact (rfl : _ = Value.string _) | exact (rfl : _ = Value.tuple _) | exact rfl) | ((with_reducible apply w_ext); exact rfl; exact rfl) | ((with_reducible apply w_not); exact rfl) | ((with_reducible apply w_nc); exact rfl) | ((with_reducible apply w_lss); exact rfl; exact rfl) | ((with_reducible apply w_gtr); exact rfl; exact rfl) | ((with_reducible apply w_geq); exact rfl; exact rfl) | ((with_reducible apply w_eql); exact rfl; exact rfl) | ((with_reducible apply w_neq); exact rfl; exact rfl) | ((with_reducible apply w_seql); exact rfl; exact rfl) | ((with_reducible apply w_sneq); exact rfl; exact rfl) | ((with_reducible apply w_beql (ht := Try.underlying4)); exact rfl; exact rfl) | ((with_reducible apply w_bneq (ht := Try.underlying4)); exact rfl; exact rfl) | ((with_reducible apply w_lens (ht := Try.underlying22)); exact rfl) | ((with_reducible apply w_lens (ht := Try.underlying23)); exact rfl) | ((with_reducible apply w_lens (ht := Try.underlying39)); exact rfl) | ((with_reducible apply w_lens (ht := Try.underlying40)); exact rfl) | ((with_reducible apply w_lens (ht := Try.underlying47)); exact rfl) | ((with_reducible apply w_lens (ht := Try.underlying48)); exact rfl) | ((with_reducible apply w_lenstr (ht := Try.underlying9)); exact rfl)))
      (refine sq_nil ?_)
      refine wp_seq_k fun K hK => ?_
      have fin : ∀ (f' : Nat → Value) (nn : Nat), nn < 18446744073709551616 → FF c s.nxt s.pend.length p' o f' → f' 18 = .int .u8 (c.T s.nxt : Nat) → f' 19 = .map (some w.heap.size) → f' 20 = .int .i64 (k : Int) → f' 21 = .int .u64 (nn : Nat) → K (Fr 228 f') w1 := by
        intro f' nn hnn hf1 f18 f19 f20 f21
        refine hK _ _ ?_
        obtain ⟨g, rfl⟩ : ∃ g, f' = upd (upd (upd (upd (ffr c s.nxt s.pend.length p' o g) 18 (.int .u8 (c.T s.nxt : Nat))) 19 (.map (some w.heap.size))) 20 (.int .i64 (k : Int))) 21 (.int .u64 (nn : Nat)) := ⟨f', by rw [← hf1.open, ← upd_id f18, ← upd_id f19, ← upd_id f20, ← upd_id f21]⟩
        clear hf1 f18 f19 f20 f21
        refine sq_region ?_
        (repeat (first | ((with_reducible apply w_mv); first | exact (rfl : _ = Value.int _ _) | exact (rfl : _ = Value.bool _) | exact (rfl : _ = Value.slice _ _ _) | exact (rfl : _ = Value.map _) | exact (rfl : _ = Value.pointer _) | exact (rfl : _ = Value.string _) | exact (rfl : _ = Value.tuple _) | exact rfl) | ((with_reducible apply w_as); first | exact (rfl : _ = Value.int _ _) | exact (rfl : _ = Value.bool _) | exact (rfl : _ = Value.slice _ _ _) | exact (rfl : _ = Value.map _) | exact (rfl : _ = Value.pointer _) | exact (rfl : _ = Value.string _) | exact (rfl : _ = Value.tuple _) | exact rfl) | ((with_reducible apply w_ext); exact rfl; exact rfl) | ((with_reducible apply w_not); exact rfl) | ((with_reducible apply w_nc); exact rfl) | ((with_reducible apply w_lss); exact rfl; exact rfl) | ((with_reducible apply w_gtr); exact rfl; exact rfl) | ((with_reducible apply w_geq); exact rfl; exact rfl) | ((with_reducible apply w_eql); exact rfl; exact rfl) | ((with_reducible apply w_neq); exact rfl; exact rfl) | ((with_reducible apply w_seql); exact rfl; exact rfl) | ((with_reducible apply w_sneq); exact rfl; exact rfl) | ((with_reducible apply w_beql (ht := Try.underlying4)); exact rfl; exact rfl) | ((with_reducible apply w_bneq (ht := Try.underlying4)); exact rfl; exact rfl) | ((with_reducible apply w_lens (ht := Try.underlying22)); exact rfl) | ((with_reducible apply w_lens (ht := Try.underlying23)); exact rfl) | ((with_reducible apply w_lens (ht := Try.underlying39)); exact rfl) | ((with_reducible apply w_lens (ht := Try.underlying40)); exact rfl) | ((with_reducible apply w_lens (ht := Try.underlying47)); exact rfl) | ((with_reducible apply w_lens (ht := Try.underlying48)); exact rfl) | ((with_reducible apply w_lenstr (ht := Try.underlying9)); exact rfl)))
        refine wl_val (ex_addi (c := ((p' + 1 : Nat) : Int)) rfl rfl (by omega) (by omega)) ?_
        (repeat (first | ((with_reducible apply w_mv); first | exact (rfl : _ = Value.int _ _) | exact (rfl : _ = Value.bool _) | exact (rfl : _ = Value.slice _ _ _) | exact (rfl : _ = Value.map _) | exact (rfl : _ = Value.pointer _) | exact (rfl : _ = Value.string _) | exact (rfl : _ = Value.tuple _) | exact rfl) | ((with_reducible apply w_as); first | exact (rfl : _ = Value.int _ _) | exact (rfl : _ = Value.bool _) | exact (rfl : _ = Value.slice _ _ _) | exact (rfl : _ = Value.map _) | exact (rfl : _ = Value.pointer _) | exact (rfl : _ = Value.string _) | exact (rfl : _ = Value.tuple _) | exact rfl) | ((with_reducible apply w_ext); exact rfl; exact rfl) | ((with_reducible apply w_not); exact rfl) | ((with_reducible apply w_nc); exact rfl) | ((with_reducible apply w_lss); exact rfl; exact rfl) | ((with_reducible apply w_gtr); exact rfl; exact rfl) | ((with_reducible apply w_geq); exact rfl; exact rfl) | ((with_reducible apply w_eql); exact rfl; exact rfl) | ((with_reducible apply w_neq); exact rfl; exact rfl) | ((with_reducible apply w_seql); exact rfl; exact rfl) | ((with_reducible apply w_sneq); exact rfl; exact rfl) | ((with_reducible apply w_beql (ht := Try.underlying4)); exact rfl; exact rfl) | ((with_reducible apply w_bneq (ht := Try.underlying4)); exact rfl; exact rfl) | ((with_reducible apply w_lens (ht := Try.underlying22)); exact rfl) | ((with_reducible apply w_lens (ht := Try.underlying23)); exact rfl) | ((with_reducible apply w_lens (ht := Try.underlying39)); exact rfl) | ((with_reducible apply w_lens (ht := Try.underlying40)); exact rfl) | ((with_reducible apply w_lens (ht := Try.underlying47)); exact rfl) | ((with_reducible apply w_lens (ht := Try.underlying48)); exact rfl) | ((with_reducible apply w_lenstr (ht := Try.underlying9)); exact rfl)))
        (refine sq_nil ?_)
        refine wp_region_lit ?_
        (repeat (first | ((with_reducible apply w_mv); first | exact (rfl : _ = Value.int _ _) | exact (rfl : _ = Value.bool _) | exact (rfl : _ = Value.slice _ _ _) | exact (rfl : _ = Value.map _) | exact (rfl : _ = Value.pointer _) | exact (rfl : _ = Value.string _) | exact (rfl : _ = Value.tuple _) | exact rfl) | ((with_reducible apply w_as); first | exact (rfl : _ = Value.int _ _) | exact (rfl : _ = Value.bool _) | exact (rfl : _ = Value.slice _ _ _) | exact (rfl : _ = Value.map _) | exact (rfl : _ = Value.pointer _) | exact (rfl : _ = Value.string _) | exact (rfl : _ = Value.tuple _) | exact rfl) | ((with_reducible apply w_ext); exact rfl; exact rfl) | ((with_reducible apply w_not); exact rfl) | ((with_reducible apply w_nc); exact rfl) | ((with_reducible apply w_lss); exact rfl; exact rfl) | ((with_reducible apply w_gtr); exact rfl; exact rfl) | ((with_reducible apply w_geq); exact rfl; exact rfl) | ((with_reducible apply w_eql); exact rfl; exact rfl) | ((with_reducible apply w_neq); exact rfl; exact rfl) | ((with_reducible apply w_seql); exact rfl; exact rfl) | ((with_reducible apply w_sneq); exact rfl; exact rfl) | ((with_reducible apply w_beql (ht := Try.underlying4)); exact rfl; exact rfl) | ((with_reducible apply w_bneq (ht := Try.underlying4)); exact rfl; exact rfl) | ((with_reducible apply w_lens (ht := Try.underlying22)); exact rfl) | ((with_reducible apply w_lens (ht := Try.underlying23)); exact rfl) | ((with_reducible apply w_lens (ht := Try.underlying39)); exact rfl) | ((with_reducible apply w_lens (ht := Try.underlying40)); exact rfl) | ((with_reducible apply w_lens (ht := Try.underlying47)); exact rfl) | ((with_reducible apply w_lens (ht := Try.underlying48)); exact rfl) | ((with_reducible apply w_lenstr (ht := Try.underlying9)); exact rfl)))
        refine w_call1 ok21 ((keyName_any k hk8 w1).mono ?_) rfl
        rintro e w' ⟨rfl, hw'⟩
        have hw' := hw'.symm
        subst hw'
        refine ⟨_, rfl, ?_⟩
        (repeat (first | ((with_reducible apply w_mv); first | exact (rfl : _ = Value.int _ _) | exact (rfl : _ = Value.bool _) | exact (rfl : _ = Value.slice _ _ _) | exact (rfl : _ = Value.map _) | exact (rfl : _ = Value.pointer _) | exact (rfl : _ = Value.string _) | exact (rfl : _ = Value.tuple _) | exact rfl) | ((with_reducible apply w_as); first | exact (rfl : _ = Value.int _ _) | exact (rfl : _ = Value.bool _) | exact (rfl : _ = Value.slice _ _ _) | exact (rfl : _ = Value.map _) | exact (rfl : _ = Value.pointer _) | exact (rfl : _ = Value.string _) | exact (rfl : _ = Value.tuple _) | exact rfl) | ((with_reducible apply w_ext); exact rfl; exact rfl) | ((with_reducible apply w_not); exact rfl) | ((with_reducible apply w_nc); exact rfl) | ((with_reducible apply w_lss); exact rfl; exact rfl) | ((with_reducible apply w_gtr); exact rfl; exact rfl) | ((with_reducible apply w_geq); exact rfl; exact rfl) | ((with_reducible apply w_eql); exact rfl; exact rfl) | ((with_reducible apply w_neq); exact rfl; exact rfl) | ((with_reducible apply w_seql); exact rfl; exact rfl) | ((with_reducible apply w_sneq); exact rfl; exact rfl) | ((with_reducible apply w_beql (ht := Try.underlying4)); exact rfl; exact rfl) | ((with_reducible apply w_bneq (ht := Try.underlying4)); exact rfl; exact rfl) | ((with_reducible apply w_lens (ht := Try.underlying22)); exact rfl) | ((with_reducible apply w_lens (ht := Try.underlying23)); exact rfl) | ((with_reducible apply w_lens (ht := Try.underlying39)); exact rfl) | ((with_reducible apply w_lens (ht := Try.underlying40)); exact rfl) | ((with_reducible apply w_lens (ht := Try.underlying47)); exact rfl) | ((with_reducible apply w_lens (ht := Try.underlying48)); exact rfl) | ((with_reducible apply w_lenstr (ht := Try.underlying9)); exact rfl)))
        refine wl_mapUpdate (enc := encU) (m := dm) (val := nn) hdm Try.underlying28 Try.underlying9 rfl rfl rfl fun w3 hm3 hg3 hs3 => ?_
        refine wpList_nil (hR _ _ rfl ⟨⟨p' + 1, ⟨rfl, rfl, rfl, rfl, rfl, rfl, rfl, rfl, rfl, rfl, rfl, rfl⟩, by omega⟩, rfl, rfl, kp1.grown hg3 (by omega) (Or.inl (Nat.le_refl _)), by omega, _, hm3, ?_, ?_, ?_⟩)
        · intro i hi hb
          rw [mget_mput]
          by_cases e : k = i
          · subst e; exact ⟨nn, by simp, hnn⟩
          · rw [if_neg (fun h => e (kn_inj' hk8 (by omega) h))]
            exact hds.1 i (by omega) hb
        · intro x hx
          rw [mget_mput] at hx
          by_cases e : kn k = x
          · exact ⟨k, by omega, hp, e⟩
          · rw [if_neg e] at hx
            obtain ⟨i, hi, hb, he⟩ := hds.2.1 x hx
            exact ⟨i, by omega, hb, he⟩
        · intro q hq
          have hget2 : mget (mput dm (kn k) nn) q.1 = some q.2 := mget_of_mem hm3.uniq hq
          rw [mget_mput] at hget2
          by_cases e : kn k = q.1
          · rw [if_pos e] at hget2
            cases hget2
            exact hnn
          · rw [if_neg e] at hget2
            exact hds.2.2 _ (mget_some_mem hget2)
      refine sq_region ?_
      (repeat (first | ((with_reducible apply w_mv); first | exact (rfl : _ = Value.int _ _) | exact (rfl : _ = Value.bool _) | exact (rfl : _ = Value.slice _ _ _) | exact (rfl : _ = Value.map _) | exact (rfl : _ = Value.pointer _) | exact (rfl : _ = Value.string _) | exact (rfl : _ = Value.tuple _) | exact rfl) | ((with_reducible apply w_as); first | exact (rfl : _ = Value.int _ _) | exact (rfl : _ = Value.bool _) | exact (rfl : _ = Value.slice _ _ _) | exact (rfl : _ = Value.map _) | exact (rfl : _ = Value.pointer _) | exact (rfl : _ = Value.string _) | exact (rfl : _ = Value.tuple _) | exact rfl) | ((with_reducible apply w_ext); exact rfl; exact rfl) | ((with_reducible apply w_not); exact rfl) | ((with_reducible apply w_nc); exact rfl) | ((with_reducible apply w_lss); exact rfl; exact rfl) | ((with_reducible apply w_gtr); exact rfl; exact rfl) | ((with_reducible apply w_geq); exact rfl; exact rfl) | ((with_reducible apply w_eql); exact rfl; exact rfl) | ((with_reducible apply w_neq); exact rfl; exact rfl) | ((with_reducible apply w_seql); exact rfl; exact rfl) | ((with_reducible apply w_sneq); exact rfl; exact rfl) | ((with_reducible apply w_beql (ht := Try.underlying4)); exact rfl; exact rfl) | ((with_reducible apply w_bneq (ht := Try.underlying4)); exact rfl; exact rfl) | ((with_reducible apply w_lens (ht := Try.underlying22)); exact rfl) | ((with_reducible apply w_lens (ht := Try.underlying23)); exact rfl) | ((with_reducible apply w_lens (ht := Try.underlying39)); exact rfl) | ((with_reducible apply w_lens (ht := Try.underlying40)); exact rfl) | ((with_reducible apply w_lens (ht := Try.underlying47)); exact rfl) | ((with_reducible apply w_lens (ht := Try.underlying48)); exact rfl) | ((with_reducible apply w_lenstr (ht := Try.underlying9)); exact rfl)))
      (refine sq_nil ?_)
      refine cond_s rfl (fun hp2 => ?_) (fun hp2 => ?_)
      · have hpos : 0 < c.nu.length := by
          have h1 : (c.nu.length : Int) > 0 := of_decide_eq_true hp2
          omega
        have hlt2 : p' % c.nu.length < c.nu.length := Nat.mod_lt _ hpos
        obtain ⟨v, hv⟩ : ∃ v, c.nu[p' % c.nu.length]? = some v := ⟨_, List.getElem?_eq_getElem hlt2⟩
        obtain ⟨y, hy, hcy⟩ := hc.cellN kpN hv
        refine wp_region_lit ?_
        (repeat (first | ((with_reducible apply w_mv); first | exact (rfl : _ = Value.int _ _) | exact (rfl : _ = Value.bool _) | exact (rfl : _ = Value.slice _ _ _) | exact (rfl : _ = Value.map _) | exact (rfl : _ = Value.pointer _) | exact (rfl : _ = Value.string _) | exact (rfl : _ = Value.tuple _) | exact rfl) | ((with_reducible apply w_as); first | exact (rfl : _ = Value.int _ _) | exact (rfl : _ = Value.bool _) | exact (rfl : _ = Value.slice _ _ _) | exact (rfl : _ = Value.map _) | exact (rfl : _ = Value.pointer _) | exact (rfl : _ = Value.string _) | exact (rfl : _ = Value.tuple _) | exact rfl) | ((with_reducible apply w_ext); exact rfl; exact rfl) | ((with_reducible apply w_not); exact rfl) | ((with_reducible apply w_nc); exact rfl) | ((with_reducible apply w_lss); exact rfl; exact rfl) | ((with_reducible apply w_gtr); exact rfl; exact rfl) | ((with_reducible apply w_geq); exact rfl; exact rfl) | ((with_reducible apply w_eql); exact rfl; exact rfl) | ((with_reducible apply w_neq); exact rfl; exact rfl) | ((with_reducible apply w_seql); exact rfl; exact rfl) | ((with_reducible apply w_sneq); exact rfl; exact rfl) | ((with_reducible apply w_beql (ht := Try.underlying4)); exact rfl; exact rfl) | ((with_reducible apply w_bneq (ht := Try.underlying4)); exact rfl; exact rfl) | ((with_reducible apply w_lens (ht := Try.underlying22)); exact rfl) | ((with_reducible apply w_lens (ht := Try.underlying23)); exact rfl) | ((with_reducible apply w_lens (ht := Try.underlying39)); exact rfl) | ((with_reducible apply w_lens (ht := Try.underlying40)); exact rfl) | ((with_reducible apply w_lens (ht := Try.underlying47)); exact rfl) | ((with_reducible apply w_lens (ht := Try.underlying48)); exact rfl) | ((with_reducible apply w_lenstr (ht := Try.underlying9)); exact rfl)))
        refine wl_val (ex_remn rfl rfl hpos) ?_
        refine wl_val (ex_index (ad := y) Try.underlying23 size29 (by rw [← hy]; rfl) rfl rfl hlt2) ?_
        refine wl_val (ex_load (v := .int .u64 _) Try.underlying29 rfl rfl hcy) ?_
        (repeat (first | ((with_reducible apply w_mv); first | exact (rfl : _ = Value.int _ _) | exact (rfl : _ = Value.bool _) | exact (rfl : _ = Value.slice _ _ _) | exact (rfl : _ = Value.map _) | exact (rfl : _ = Value.pointer _) | exact (rfl : _ = Value.string _) | exact (rfl : _ = Value.tuple _) | exact rfl) | ((with_reducible apply w_as); first | exact (rfl : _ = Value.int _ _) | exact (rfl : _ = Value.bool _) | exact (rfl : _ = Value.slice _ _ _) | exact (rfl : _ = Value.map _) | exact (rfl : _ = Value.pointer _) | exact (rfl : _ = Value.string _) | exact (rfl : _ = Value.tuple _) | exact rfl) | ((with_reducible apply w_ext); exact rfl; exact rfl) | ((with_reducible apply w_not); exact rfl) | ((with_reducible apply w_nc); exact rfl) | ((with_reducible apply w_lss); exact rfl; exact rfl) | ((with_reducible apply w_gtr); exact rfl; exact rfl) | ((with_reducible apply w_geq); exact rfl; exact rfl) | ((with_reducible apply w_eql); exact rfl; exact rfl) | ((with_reducible apply w_neq); exact rfl; exact rfl) | ((with_reducible apply w_seql); exact rfl; exact rfl) | ((with_reducible apply w_sneq); exact rfl; exact rfl) | ((with_reducible apply w_beql (ht := Try.underlying4)); exact rfl; exact rfl) | ((with_reducible apply w_bneq (ht := Try.underlying4)); exact rfl; exact rfl) | ((with_reducible apply w_lens (ht := Try.underlying22)); exact rfl) | ((with_reducible apply w_lens (ht := Try.underlying23)); exact rfl) | ((with_reducible apply w_lens (ht := Try.underlying39)); exact rfl) | ((with_reducible apply w_lens (ht := Try.underlying40)); exact rfl) | ((with_reducible apply w_lens (ht := Try.underlying47)); exact rfl) | ((with_reducible apply w_lens (ht := Try.underlying48)); exact rfl) | ((with_reducible apply w_lenstr (ht := Try.underlying9)); exact rfl)))
        exact wpList_nil (xt_n (fin _ v (hc.n64 v (List.mem_of_getElem? hv)) ⟨rfl, rfl, rfl, rfl, rfl, rfl, rfl, rfl, rfl, rfl, rfl, rfl⟩ rfl rfl rfl rfl))
      · exact wp_skip (xt_n (fin _ 0 (by omega) ⟨rfl, rfl, rfl, rfl, rfl, rfl, rfl, rfl, rfl, rfl, rfl, rfl⟩ rfl rfl rfl rfl))
    · refine wp_skip (hR _ _ rfl ⟨⟨p', ⟨rfl, rfl, rfl, rfl, rfl, rfl, rfl, rfl, rfl, rfl, rfl, rfl⟩, by omega⟩, rfl, rfl, kp1, sz1, dm, hdm, ?_, ?_, hds.2.2⟩)
      · intro i hi hb
        by_cases e : k = i
        · subst e; rw [hp] at hb; cases hb
        · exact hds.1 i (by omega) hb
      · intro x hx
        obtain ⟨i, hi, hb, he⟩ := hds.2.1 x hx
        exact ⟨i, by omega, hb, he⟩
  rintro f w1 ⟨⟨p', hf1, hp'⟩, f18, f19, kp1, sz1, dm, hdm, hds⟩
  obtain ⟨g, rfl⟩ : ∃ g, f = upd (upd (ffr c s.nxt s.pend.length p' o g) 18 (.int .u8 (c.T s.nxt : Nat))) 19 (.map (some w.heap.size)) := ⟨f, by rw [← hf1.open, ← upd_id f18, ← upd_id f19]⟩
  clear hf1 f18 f19 kpa mapa sza
  have hw1 := hw.keep kp1
  have hsmall := hw.inv.small (by omega)
  -- Take
  refine xt_n (sq_region ?_)
  (repeat (first | ((with_reducible apply w_mv); first | exact (rfl : _ = Value.int _ _) | exact (rfl : _ = Value.bool _) | exact (rfl : _ = Value.slice _ _ _) | exact (rfl : _ = Value.map _) | exact (rfl : _ = Value.pointer _) | exact (rfl : _ = Value.string _) | exact (rfl : _ = Value.tuple _) | exact rfl) | ((with_reducible apply w_as); first | exact (rfl : _ = Value.int _ _) | exact (rfl : _ = Value.bool _) | exact (rfl : _ = Value.slice _ _ _) | exact (rfl : _ = Value.map _) | exact (rfl : _ = Value.pointer _) | exact (rfl : _ = Value.string _) | exact (rfl : _ = Value.tuple _) | exact rfl) | ((with_reducible apply w_ext); exact rfl; exact rfl) | ((with_reducible apply w_not); exact rfl) | ((with_reducible apply w_nc); exact rfl) | ((with_reducible apply w_lss); exact rfl; exact rfl) | ((with_reducible apply w_gtr); exact rfl; exact rfl) | ((with_reducible apply w_geq); exact rfl; exact rfl) | ((with_reducible apply w_eql); exact rfl; exact rfl) | ((with_reducible apply w_neq); exact rfl; exact rfl) | ((with_reducible apply w_seql); exact rfl; exact rfl) | ((with_reducible apply w_sneq); exact rfl; exact rfl) | ((with_reducible apply w_beql (ht := Try.underlying4)); exact rfl; exact rfl) | ((with_reducible apply w_bneq (ht := Try.underlying4)); exact rfl; exact rfl) | ((with_reducible apply w_lens (ht := Try.underlying22)); exact rfl) | ((with_reducible apply w_lens (ht := Try.underlying23)); exact rfl) | ((with_reducible apply w_lens (ht := Try.underlying39)); exact rfl) | ((with_reducible apply w_lens (ht := Try.underlying40)); exact rfl) | ((with_reducible apply w_lens (ht := Try.underlying47)); exact rfl) | ((with_reducible apply w_lens (ht := Try.underlying48)); exact rfl) | ((with_reducible apply w_lenstr (ht := Try.underlying9)); exact rfl)))
  refine w_call2 ok12 ((take_any (c.N + 1) c.N w.heap.size s.m dm w1 hw1.app hdm (by omega) hsmall hds.2.2).mono ?_) rfl rfl
  rintro e w3 ⟨wm, m', rfl, sz3, hwm, app3, kp3, e1, e2⟩
  refine ⟨_, rfl, ?_⟩
  (repeat (first | ((with_reducible apply w_mv); first | exact (rfl : _ = Value.int _ _) | exact (rfl : _ = Value.bool _) | exact (rfl : _ = Value.slice _ _ _) | exact (rfl : _ = Value.map _) | exact (rfl : _ = Value.pointer _) | exact (rfl : _ = Value.string _) | exact (rfl : _ = Value.tuple _) | exact rfl) | ((with_reducible apply w_as); first | exact (rfl : _ = Value.int _ _) | exact (rfl : _ = Value.bool _) | exact (rfl : _ = Value.slice _ _ _) | exact (rfl : _ = Value.map _) | exact (rfl : _ = Value.pointer _) | exact (rfl : _ = Value.string _) | exact (rfl : _ = Value.tuple _) | exact rfl) | ((with_reducible apply w_ext); exact rfl; exact rfl) | ((with_reducible apply w_not); exact rfl) | ((with_reducible apply w_nc); exact rfl) | ((with_reducible apply w_lss); exact rfl; exact rfl) | ((with_reducible apply w_gtr); exact rfl; exact rfl) | ((with_reducible apply w_geq); exact rfl; exact rfl) | ((with_reducible apply w_eql); exact rfl; exact rfl) | ((with_reducible apply w_neq); exact rfl; exact rfl) | ((with_reducible apply w_seql); exact rfl; exact rfl) | ((with_reducible apply w_sneq); exact rfl; exact rfl) | ((with_reducible apply w_beql (ht := Try.underlying4)); exact rfl; exact rfl) | ((with_reducible apply w_bneq (ht := Try.underlying4)); exact rfl; exact rfl) | ((with_reducible apply w_lens (ht := Try.underlying22)); exact rfl) | ((with_reducible apply w_lens (ht := Try.underlying23)); exact rfl) | ((with_reducible apply w_lens (ht := Try.underlying39)); exact rfl) | ((with_reducible apply w_lens (ht := Try.underlying40)); exact rfl) | ((with_reducible apply w_lens (ht := Try.underlying47)); exact rfl) | ((with_reducible apply w_lens (ht := Try.underlying48)); exact rfl) | ((with_reducible apply w_lenstr (ht := Try.underlying9)); exact rfl)))
  (refine sq_nil ?_)
  rw [sz1] at hwm sz3
  rw [sz1]
  obtain ⟨hinv', hkeys, hwx⟩ := hw.inv.take hds.1 hds.2.1 e1 e2
  clear e1 e2 hsmall hds hdm
  refine wp_seq (sq_region ?_)
  (repeat (first | ((with_reducible apply w_mv); first | exact (rfl : _ = Value.int _ _) | exact (rfl : _ = Value.bool _) | exact (rfl : _ = Value.slice _ _ _) | exact (rfl : _ = Value.map _) | exact (rfl : _ = Value.pointer _) | exact (rfl : _ = Value.string _) | exact (rfl : _ = Value.tuple _) | exact rfl) | ((with_reducible apply w_as); first | exact (rfl : _ = Value.int _ _) | exact (rfl : _ = Value.bool _) | exact (rfl : _ = Value.slice _ _ _) | exact (rfl : _ = Value.map _) | exact (rfl : _ = Value.pointer _) | exact (rfl : _ = Value.string _) | exact (rfl : _ = Value.tuple _) | exact rfl) | ((with_reducible apply w_ext); exact rfl; exact rfl) | ((with_reducible apply w_not); exact rfl) | ((with_reducible apply w_nc); exact rfl) | ((with_reducible apply w_lss); exact rfl; exact rfl) | ((with_reducible apply w_gtr); exact rfl; exact rfl) | ((with_reducible apply w_geq); exact rfl; exact rfl) | ((with_reducible apply w_eql); exact rfl; exact rfl) | ((with_reducible apply w_neq); exact rfl; exact rfl) | ((with_reducible apply w_seql); exact rfl; exact rfl) | ((with_reducible apply w_sneq); exact rfl; exact rfl) | ((with_reducible apply w_beql (ht := Try.underlying4)); exact rfl; exact rfl) | ((with_reducible apply w_bneq (ht := Try.underlying4)); exact rfl; exact rfl) | ((with_reducible apply w_lens (ht := Try.underlying22)); exact rfl) | ((with_reducible apply w_lens (ht := Try.underlying23)); exact rfl) | ((with_reducible apply w_lens (ht := Try.underlying39)); exact rfl) | ((with_reducible apply w_lens (ht := Try.underlying40)); exact rfl) | ((with_reducible apply w_lens (ht := Try.underlying47)); exact rfl) | ((with_reducible apply w_lens (ht := Try.underlying48)); exact rfl) | ((with_reducible apply w_lenstr (ht := Try.underlying9)); exact rfl)))
  refine w_call2 ok22 ((sameKeys_any _ (c.T s.nxt) wm w3 hwm hM hkeys).mono ?_) rfl rfl
  rintro e w' ⟨rfl, hw'⟩
  have hw' := hw'.symm
  subst hw'
  refine ⟨_, rfl, ?_⟩
  (repeat (first | ((with_reducible apply w_mv); first | exact (rfl : _ = Value.int _ _) | exact (rfl : _ = Value.bool _) | exact (rfl : _ = Value.slice _ _ _) | exact (rfl : _ = Value.map _) | exact (rfl : _ = Value.pointer _) | exact (rfl : _ = Value.string _) | exact (rfl : _ = Value.tuple _) | exact rfl) | ((with_reducible apply w_as); first | exact (rfl : _ = Value.int _ _) | exact (rfl : _ = Value.bool _) | exact (rfl : _ = Value.slice _ _ _) | exact (rfl : _ = Value.map _) | exact (rfl : _ = Value.pointer _) | exact (rfl : _ = Value.string _) | exact (rfl : _ = Value.tuple _) | exact rfl) | ((with_reducible apply w_ext); exact rfl; exact rfl) | ((with_reducible apply w_not); exact rfl) | ((with_reducible apply w_nc); exact rfl) | ((with_reducible apply w_lss); exact rfl; exact rfl) | ((with_reducible apply w_gtr); exact rfl; exact rfl) | ((with_reducible apply w_geq); exact rfl; exact rfl) | ((with_reducible apply w_eql); exact rfl; exact rfl) | ((with_reducible apply w_neq); exact rfl; exact rfl) | ((with_reducible apply w_seql); exact rfl; exact rfl) | ((with_reducible apply w_sneq); exact rfl; exact rfl) | ((with_reducible apply w_beql (ht := Try.underlying4)); exact rfl; exact rfl) | ((with_reducible apply w_bneq (ht := Try.underlying4)); exact rfl; exact rfl) | ((with_reducible apply w_lens (ht := Try.underlying22)); exact rfl) | ((with_reducible apply w_lens (ht := Try.underlying23)); exact rfl) | ((with_reducible apply w_lens (ht := Try.underlying39)); exact rfl) | ((with_reducible apply w_lens (ht := Try.underlying40)); exact rfl) | ((with_reducible apply w_lens (ht := Try.underlying47)); exact rfl) | ((with_reducible apply w_lens (ht := Try.underlying48)); exact rfl) | ((with_reducible apply w_lenstr (ht := Try.underlying9)); exact rfl)))
  (refine sq_nil ?_)
  refine cond_n rfl rfl (wp_skip (xt_n (wp_seq (sq_region ?_))))
  (repeat (first | ((with_reducible apply w_mv); first | exact (rfl : _ = Value.int _ _) | exact (rfl : _ = Value.bool _) | exact (rfl : _ = Value.slice _ _ _) | exact (rfl : _ = Value.map _) | exact (rfl : _ = Value.pointer _) | exact (rfl : _ = Value.string _) | exact (rfl : _ = Value.tuple _) | exact rfl) | ((with_reducible apply w_as); first | exact (rfl : _ = Value.int _ _) | exact (rfl : _ = Value.bool _) | exact (rfl : _ = Value.slice _ _ _) | exact (rfl : _ = Value.map _) | exact (rfl : _ = Value.pointer _) | exact (rfl : _ = Value.string _) | exact (rfl : _ = Value.tuple _) | exact rfl) | ((with_reducible apply w_ext); exact rfl; exact rfl) | ((with_reducible apply w_not); exact rfl) | ((with_reducible apply w_nc); exact rfl) | ((with_reducible apply w_lss); exact rfl; exact rfl) | ((with_reducible apply w_gtr); exact rfl; exact rfl) | ((with_reducible apply w_geq); exact rfl; exact rfl) | ((with_reducible apply w_eql); exact rfl; exact rfl) | ((with_reducible apply w_neq); exact rfl; exact rfl) | ((with_reducible apply w_seql); exact rfl; exact rfl) | ((with_reducible apply w_sneq); exact rfl; exact rfl) | ((with_reducible apply w_beql (ht := Try.underlying4)); exact rfl; exact rfl) | ((with_reducible apply w_bneq (ht := Try.underlying4)); exact rfl; exact rfl) | ((with_reducible apply w_lens (ht := Try.underlying22)); exact rfl) | ((with_reducible apply w_lens (ht := Try.underlying23)); exact rfl) | ((with_reducible apply w_lens (ht := Try.underlying39)); exact rfl) | ((with_reducible apply w_lens (ht := Try.underlying40)); exact rfl) | ((with_reducible apply w_lens (ht := Try.underlying47)); exact rfl) | ((with_reducible apply w_lens (ht := Try.underlying48)); exact rfl) | ((with_reducible apply w_lenstr (ht := Try.underlying9)); exact rfl)))
  (refine sq_nil ?_)
  have k3 : ∀ i, i < w.heap.size → i ≠ c.N → w3.heap[i]? = w.heap[i]? := fun i hi h0 => (kp3.block i (by omega) (by simpa using h0)).trans (kp1.block i hi (by simp))
  -- the counts
  refine for8 (fun k f w4 => FF c s.nxt s.pend.length p' o f ∧ f 18 = .int .u8 (c.T s.nxt : Nat) ∧ f 22 = .map (some (w.heap.size + 1)) ∧ Kp w3.heap.size [c.N + 4, c.N + 5] w3 w4 ∧ w4.heap.size = w3.heap.size ∧
      Arr w4 (c.N + 5) 8 51 (fun q => .int .u64 ((if q < k ∧ (c.T s.nxt).testBit q = true then s.tb q + 1 else s.tb q : Nat) : Int)) ∧
      Arr w4 (c.N + 4) 8 50 (fun q => .int .i64 ((if q < k ∧ (c.T s.nxt).testBit q = true then pcnt c.T s.pend q + 1 else pcnt c.T s.pend q : Nat) : Int))) rfl (by decide) rfl
    ⟨⟨rfl, rfl, rfl, rfl, rfl, rfl, rfl, rfl, rfl, rfl, rfl, rfl⟩, rfl, rfl, Kp.refl _ _ _, rfl, (hw.tba.of_block (k3 _ (by omega) (by omega))).congr (fun q _ => by simp), (hw.pca.of_block (k3 _ (by omega) (by omega))).congr (fun q _ => by simp)⟩ ?_ ?_ ?_
  · rintro k f f' w1 ha ⟨h1, h2, h3, rest⟩
    exact ⟨h1.agr ha rfl, (ha 18 rfl).trans h2, (ha 22 rfl).trans h3, rest⟩
  · rintro k f w4 R hk8 fk ⟨hf1, f18, f22, kp4, sz4, ht4, hp4⟩ hR hret
    obtain ⟨g, rfl⟩ : ∃ g, f = upd (upd (upd (ffr c s.nxt s.pend.length p' o g) 18 (.int .u8 (c.T s.nxt : Nat))) 22 (.map (some (w.heap.size + 1)))) 23 (.int .i64 (k : Int)) := ⟨f, by rw [← hf1.open, ← upd_id f18, ← upd_id f22, ← upd_id fk]⟩
    clear hf1 f18 f22 fk
    have htb := hw.inv.tbn k hk8
    have hpc := pcnt_le c.T s.pend k
    refine sq_region ?_
    (repeat (first | ((with_reducible apply w_mv); first | exact (rfl : _ = Value.int _ _) | exact (rfl : _ = Value.bool _) | exact (rfl : _ = Value.slice _ _ _) | exact (rfl : _ = Value.map _) | exact (rfl : _ = Value.pointer _) | exact (rfl : _ = Value.string _) | exact (rfl : _ = Value.tuple _) | exact rfl) | ((with_reducible apply w_as); first | exact (rfl : _ = Value.int _ _) | exact (rfl : _ = Value.bool _) | exact (rfl : _ = Value.slice _ _ _) | exact (rfl : _ = Value.map _) | exact (rfl : _ = Value.pointer _) | exact (rfl : _ = Value.string _) | exact (rfl : _ = Value.tuple _) | exact rfl) | ((with_reducible apply w_ext); exact rfl; exact rfl) | ((with_reducible apply w_not); exact rfl) | ((with_reducible apply w_nc); exact rfl) | ((with_reducible apply w_lss); exact rfl; exact rfl) | ((with_reducible apply w_gtr); exact rfl; exact rfl) | ((with_reducible apply w_geq); exact rfl; exact rfl) | ((with_reducible apply w_eql); exact rfl; exact rfl) | ((with_reducible apply w_neq); exact rfl; exact rfl) | ((with_reducible apply w_seql); exact rfl; exact rfl) | ((with_reducible apply w_sneq); exact rfl; exact rfl) | ((with_reducible apply w_beql (ht := Try.underlying4)); exact rfl; exact rfl) | ((with_reducible apply w_bneq (ht := Try.underlying4)); exact rfl; exact rfl) | ((with_reducible apply w_lens (ht := Try.underlying22)); exact rfl) | ((with_reducible apply w_lens (ht := Try.underlying23)); exact rfl) | ((with_reducible apply w_lens (ht := Try.underlying39)); exact rfl) | ((with_reducible apply w_lens (ht := Try.underlying40)); exact rfl) | ((with_reducible apply w_lens (ht := Try.underlying47)); exact rfl) | ((with_reducible apply w_lens (ht := Try.underlying48)); exact rfl) | ((with_reducible apply w_lenstr (ht := Try.underlying9)); exact rfl)))
    refine w_call2 ok20 ((hasKey_any (c.T s.nxt) k hM hk8 w4).mono ?_) rfl rfl
    rintro e w' ⟨rfl, hw'⟩
    have hw' := hw'.symm
    subst hw'
    refine ⟨_, rfl, ?_⟩
    (refine sq_nil ?_)
    refine cond_s rfl (fun hp => ?_) (fun hp => ?_)
    · obtain ⟨xw, hxw, hxle⟩ := hwx k hk8 hp
      have hwm4 : MapAt encU w4.drew (w.heap.size + 1) wm := hwm.of_block (kp4.block _ (by omega) (by simp; omega))
      have cT : ∀ wx : World, wx.heap = w4.heap → wx.cell? ⟨c.N + 5, k, none⟩ = some (.int .u64 (s.tb k : Nat)) := fun wx hh => by
        have : wx.cell? ⟨c.N + 5, k, none⟩ = w4.cell? ⟨c.N + 5, k, none⟩ := by unfold World.cell?; rw [hh]
        rw [this, ht4.cell hk8, if_neg (by omega)]
      have cP : ∀ wx : World, (∀ i, i ≠ c.N + 5 → wx.heap[i]? = w4.heap[i]?) → wx.cell? ⟨c.N + 4, k, none⟩ = some (.int .i64 (pcnt c.T s.pend k : Nat)) := fun wx hh => by
        rw [(hp4.of_block (hh _ (by omega))).cell hk8, if_neg (by omega)]
      refine wp_seq (wp_seq_k fun K hK => ?_)
      have fin : ∀ f', FF c s.nxt s.pend.length p' o f' → f' 18 = .int .u8 (c.T s.nxt : Nat) → f' 22 = .map (some (w.heap.size + 1)) → f' 23 = .int .i64 (k : Int) → f' 110 = .bool false → K (Fr 228 f') w4.drew := by
        intro f' hf1 f18 f22 f23 f110
        refine hK _ _ ?_
        obtain ⟨g, rfl⟩ : ∃ g, f' = upd (upd (upd (upd (ffr c s.nxt s.pend.length p' o g) 18 (.int .u8 (c.T s.nxt : Nat))) 22 (.map (some (w.heap.size + 1)))) 23 (.int .i64 (k : Int))) 110 (.bool false) := ⟨f', by rw [← hf1.open, ← upd_id f18, ← upd_id f22, ← upd_id f23, ← upd_id f110]⟩
        clear hf1 f18 f22 f23 f110
        refine cond_n rfl rfl (wp_skip (xt_n (sq_region ?_)))
        (repeat (first | ((with_reducible apply w_mv); first | exact (rfl : _ = Value.int _ _) | exact (rfl : _ = Value.bool _) | exact (rfl : _ = Value.slice _ _ _) | exact (rfl : _ = Value.map _) | exact (rfl : _ = Value.pointer _) | exact (rfl : _ = Value.string _) | exact (rfl : _ = Value.tuple _) | exact rfl) | ((with_reducible apply w_as); first | exact (rfl : _ = Value.int _ _) | exact (rfl : _ = Value.bool _) | exact (rfl : _ = Value.slice _ _ _) | exact (rfl : _ = Value.map _) | exact (rfl : _ = Value.pointer _) | exact (rfl : _ = Value.string _) | exact (rfl : _ = Value.tuple _) | exact rfl) | ((with_reducible apply w_ext); exact rfl; exact rfl) | ((with_reducible apply w_not); exact rfl) | ((with_reducible apply w_nc); exact rfl) | ((with_reducible apply w_lss); exact rfl; exact rfl) | ((with_reducible apply w_gtr); exact rfl; exact rfl) | ((with_reducible apply w_geq); exact rfl; exact rfl) | ((with_reducible apply w_eql); exact rfl; exact rfl) | ((with_reducible apply w_neq); exact rfl; exact rfl) | ((with_reducible apply w_seql); exact rfl; exact rfl) | ((with_reducible apply w_sneq); exact rfl; exact rfl) | ((with_reducible apply w_beql (ht := Try.underlying4)); exact rfl; exact rfl) | ((with_reducible apply w_bneq (ht := Try.underlying4)); exact rfl; exact rfl) | ((with_reducible apply w_lens (ht := Try.underlying22)); exact rfl) | ((with_reducible apply w_lens (ht := Try.underlying23)); exact rfl) | ((with_reducible apply w_lens (ht := Try.underlying39)); exact rfl) | ((with_reducible apply w_lens (ht := Try.underlying40)); exact rfl) | ((with_reducible apply w_lens (ht := Try.underlying47)); exact rfl) | ((with_reducible apply w_lens (ht := Try.underlying48)); exact rfl) | ((with_reducible apply w_lenstr (ht := Try.underlying9)); exact rfl)))
        refine wl_val (ex_index_arr Try.underlying51 size29 rfl rfl rfl hk8) ?_
        refine wl_val (ex_load (v := .int .u64 _) Try.underlying29 rfl rfl (cT w4.drew rfl)) ?_
        refine wl_val (ex_addu (c := ((s.tb k + 1 : Nat) : Int)) rfl rfl (by omega) (by omega)) ?_
        refine wl_val (ex_index_arr Try.underlying51 size29 rfl rfl rfl hk8) ?_
        refine wl_set (w := w4.drew) (v := .int .u64 ((s.tb k + 1 : Nat) : Int)) ht4 hk8 size29 rfl rfl rfl fun w5 ha5 hb5 hs5 hk5 => ?_
        (refine sq_nil ?_)
        refine wp_region_lit ?_
        (repeat (first | ((with_reducible apply w_mv); first | exact (rfl : _ = Value.int _ _) | exact (rfl : _ = Value.bool _) | exact (rfl : _ = Value.slice _ _ _) | exact (rfl : _ = Value.map _) | exact (rfl : _ = Value.pointer _) | exact (rfl : _ = Value.string _) | exact (rfl : _ = Value.tuple _) | exact rfl) | ((with_reducible apply w_as); first | exact (rfl : _ = Value.int _ _) | exact (rfl : _ = Value.bool _) | exact (rfl : _ = Value.slice _ _ _) | exact (rfl : _ = Value.map _) | exact (rfl : _ = Value.pointer _) | exact (rfl : _ = Value.string _) | exact (rfl : _ = Value.tuple _) | exact rfl) | ((with_reducible apply w_ext); exact rfl; exact rfl) | ((with_reducible apply w_not); exact rfl) | ((with_reducible apply w_nc); exact rfl) | ((with_reducible apply w_lss); exact rfl; exact rfl) | ((with_reducible apply w_gtr); exact rfl; exact rfl) | ((with_reducible apply w_geq); exact rfl; exact rfl) | ((with_reducible apply w_eql); exact rfl; exact rfl) | ((with_reducible apply w_neq); exact rfl; exact rfl) | ((with_reducible apply w_seql); exact rfl; exact rfl) | ((with_reducible apply w_sneq); exact rfl; exact rfl) | ((with_reducible apply w_beql (ht := Try.underlying4)); exact rfl; exact rfl) | ((with_reducible apply w_bneq (ht := Try.underlying4)); exact rfl; exact rfl) | ((with_reducible apply w_lens (ht := Try.underlying22)); exact rfl) | ((with_reducible apply w_lens (ht := Try.underlying23)); exact rfl) | ((with_reducible apply w_lens (ht := Try.underlying39)); exact rfl) | ((with_reducible apply w_lens (ht := Try.underlying40)); exact rfl) | ((with_reducible apply w_lens (ht := Try.underlying47)); exact rfl) | ((with_reducible apply w_lens (ht := Try.underlying48)); exact rfl) | ((with_reducible apply w_lenstr (ht := Try.underlying9)); exact rfl)))
        refine wl_val (ex_index_arr Try.underlying50 size3 rfl rfl rfl hk8) ?_
        refine wl_val (ex_load (v := .int .i64 _) Try.underlying3 rfl rfl (cP w5 hb5)) ?_
        refine wl_val (ex_addi (c := ((pcnt c.T s.pend k + 1 : Nat) : Int)) rfl rfl (by omega) (by omega)) ?_
        refine wl_val (ex_index_arr Try.underlying50 size3 rfl rfl rfl hk8) ?_
        refine wl_set (v := .int .i64 ((pcnt c.T s.pend k + 1 : Nat) : Int)) (hp4.of_block (hb5 _ (by omega))) hk8 size3 rfl rfl rfl fun w6 ha6 hb6 hs6 hk6 => ?_
        refine wpList_nil (hR _ _ rfl ⟨⟨rfl, rfl, rfl, rfl, rfl, rfl, rfl, rfl, rfl, rfl, rfl, rfl⟩, rfl, rfl, hk6 _ _ _ (Or.inr (by simp)) (hk5 _ _ _ (Or.inr (by simp)) kp4.drew), by rw [hs6, hs5]; exact sz4, ?_, ?_⟩)
        · refine (ha5.of_block (hb6 _ (by omega))).congr (fun q hq => ?_)
          by_cases e : q = k
          · subst e; simp [hp]
          · have h1 : (q < k + 1) = (q < k) := by apply propext; omega
            simp only [if_neg e, h1]
        · refine ha6.congr (fun q hq => ?_)
          by_cases e : q = k
          · subst e; simp [hp]
          · have h1 : (q < k + 1) = (q < k) := by apply propext; omega
            simp only [if_neg e, h1]
      refine still1 2 101 mixed (by kernel_rfl) (by kernel_rfl) fun ops hg => ?_
      refine s_mv (v := .int _ _) rfl ?_
      refine s_eql rfl rfl ?_
      by_cases hlaw : c.law = 0
      · rw [show decide ((c.law : Int) = 0) = true from decide_eq_true (by omega)]
        refine s_mv (v := .bool _) rfl ?_
        refine gk_val hg rfl rfl (ex_move_map rfl) ?_
        refine gk_val hg rfl rfl (ex_move_int rfl) ?_
        refine gk_call1 (.string (kn k)) hg rfl rfl ok21 (keyName_any k hk8 _) rfl ?_
        refine gk_val hg rfl rfl (ex_lookup hwm4 Try.underlying28 Try.underlying9 (zeroU _) rfl rfl) ?_
        rw [hxw]
        refine gk_val hg rfl rfl (ex_move_int rfl) ?_
        refine gk_val hg rfl rfl (ex_index_arr Try.underlying51 size29 rfl rfl rfl hk8) ?_
        refine gk_val hg rfl rfl (ex_load (v := .int .u64 _) Try.underlying29 rfl rfl (cT _ rfl)) ?_
        refine gk_val hg rfl rfl (ex_gtr (k := .u64) (a := (xw : Int)) rfl rfl) ?_
        rw [show decide ((xw : Int) > (s.tb k : Int)) = false from decide_eq_false (by omega)]
        refine s_picky rfl (v := .bool false) rfl ?_
        exact wpStill_nil (xt_n (fin _ ⟨rfl, rfl, rfl, rfl, rfl, rfl, rfl, rfl, rfl, rfl, rfl, rfl⟩ rfl rfl rfl rfl))
      · rw [show decide ((c.law : Int) = 0) = false from decide_eq_false (by omega)]
        refine s_mv (v := .bool _) rfl ?_
        refine gk_off hg rfl rfl ?_
        refine gk_off hg rfl rfl ?_
        refine gk_off hg rfl rfl ?_
        refine gk_off hg rfl rfl ?_
        refine gk_off hg rfl rfl ?_
        refine gk_off hg rfl rfl ?_
        refine gk_off hg rfl rfl ?_
        refine gk_off hg rfl rfl ?_
        refine s_pickn rfl (v := .bool false) rfl ?_
        exact wpStill_nil (xt_n (fin _ ⟨rfl, rfl, rfl, rfl, rfl, rfl, rfl, rfl, rfl, rfl, rfl, rfl⟩ rfl rfl rfl rfl))
    · refine wp_skip (hR _ _ rfl ⟨⟨rfl, rfl, rfl, rfl, rfl, rfl, rfl, rfl, rfl, rfl, rfl, rfl⟩, rfl, rfl, kp4, sz4, ht4.congr (fun q hq => ?_), hp4.congr (fun q hq => ?_)⟩)
      · by_cases e : q = k
        · subst e; simp [hp]
        · have h1 : (q < k + 1) = (q < k) := by apply propext; omega
          simp only [h1]
      · by_cases e : q = k
        · subst e; simp [hp]
        · have h1 : (q < k + 1) = (q < k) := by apply propext; omega
          simp only [h1]
  rintro f w4 ⟨hf1, f18, f22, kp4, sz4, ht4, hp4⟩
  obtain ⟨g, rfl⟩ : ∃ g, f = upd (ffr c s.nxt s.pend.length p' o g) 22 (.map (some (w.heap.size + 1))) := ⟨f, by rw [← hf1.open, ← upd_id f22]⟩
  clear hf1 f18 f22
  have k4 : ∀ i, i < w.heap.size → i ≠ c.N → i ≠ c.N + 4 → i ≠ c.N + 5 → w4.heap[i]? = w.heap[i]? := fun i hi h0 h4 h5 => (kp4.block i (by omega) (by simp; omega)).trans (k3 i hi h0)
  have kpN4 : Kp c.N [] c.wN w4 := ((hw.kp.trans (kp1.mono (by omega) (by simp))).trans (kp3.mono (by omega) (fun k hk hm => by simp at hm; omega))).trans (kp4.mono (by omega) (fun k hk hm => by simp at hm; omega))
  have hwm4 : MapAt encU w4 (w.heap.size + 1) wm := hwm.of_block (kp4.block _ (by omega) (by simp; omega))
  have app4 : App w4 (c.N + 1) c.N m' := app3.keep (kp4.block _ app3.ltA (by simp)) (kp4.block _ app3.2.lt (by simp))
  refine xt_n (sq_region ?_)
  (repeat (first | ((with_reducible apply w_mv); first | exact (rfl : _ = Value.int _ _) | exact (rfl : _ = Value.bool _) | exact (rfl : _ = Value.slice _ _ _) | exact (rfl : _ = Value.map _) | exact (rfl : _ = Value.pointer _) | exact (rfl : _ = Value.string _) | exact (rfl : _ = Value.tuple _) | exact rfl) | ((with_reducible apply w_as); first | exact (rfl : _ = Value.int _ _) | exact (rfl : _ = Value.bool _) | exact (rfl : _ = Value.slice _ _ _) | exact (rfl : _ = Value.map _) | exact (rfl : _ = Value.pointer _) | exact (rfl : _ = Value.string _) | exact (rfl : _ = Value.tuple _) | exact rfl) | ((with_reducible apply w_ext); exact rfl; exact rfl) | ((with_reducible apply w_not); exact rfl) | ((with_reducible apply w_nc); exact rfl) | ((with_reducible apply w_lss); exact rfl; exact rfl) | ((with_reducible apply w_gtr); exact rfl; exact rfl) | ((with_reducible apply w_geq); exact rfl; exact rfl) | ((with_reducible apply w_eql); exact rfl; exact rfl) | ((with_reducible apply w_neq); exact rfl; exact rfl) | ((with_reducible apply w_seql); exact rfl; exact rfl) | ((with_reducible apply w_sneq); exact rfl; exact rfl) | ((with_reducible apply w_beql (ht := Try.underlying4)); exact rfl; exact rfl) | ((with_reducible apply w_bneq (ht := Try.underlying4)); exact rfl; exact rfl) | ((with_reducible apply w_lens (ht := Try.underlying22)); exact rfl) | ((with_reducible apply w_lens (ht := Try.underlying23)); exact rfl) | ((with_reducible apply w_lens (ht := Try.underlying39)); exact rfl) | ((with_reducible apply w_lens (ht := Try.underlying40)); exact rfl) | ((with_reducible apply w_lens (ht := Try.underlying47)); exact rfl) | ((with_reducible apply w_lens (ht := Try.underlying48)); exact rfl) | ((with_reducible apply w_lenstr (ht := Try.underlying9)); exact rfl)))
  refine wl_val (ex_index0 Try.underlying47 size28 rfl rfl rfl hlt) ?_
  refine wl_set (v := .map (some (w.heap.size + 1))) (hw.ws.of_block (k4 _ (by omega) (by omega) (by omega) (by omega))) hlt size28 rfl rfl rfl fun w5 ws5 hb5 hs5 hk5 => ?_
  (refine sq_nil ?_)
  have k5 : ∀ i, i < w.heap.size → i ≠ c.N → i ≠ c.N + 2 → i ≠ c.N + 4 → i ≠ c.N + 5 → w5.heap[i]? = w.heap[i]? := fun i hi h0 h2 h4 h5 => (hb5 i h2).trans (k4 i hi h0 h4 h5)
  have kpN5 : Kp c.N [] c.wN w5 := hk5 _ _ _ (Or.inl (by omega)) kpN4
  have pd5 : Arr w5 (c.N + 3) c.tx.length 3 s.pf := hw.pd.of_block (k5 _ (by omega) (by omega) (by omega) (by omega) (by omega))
  refine sq_region ?_
  (repeat (first | ((with_reducible apply w_mv); first | exact (rfl : _ = Value.int _ _) | exact (rfl : _ = Value.bool _) | exact (rfl : _ = Value.slice _ _ _) | exact (rfl : _ = Value.map _) | exact (rfl : _ = Value.pointer _) | exact (rfl : _ = Value.string _) | exact (rfl : _ = Value.tuple _) | exact rfl) | ((with_reducible apply w_as); first | exact (rfl : _ = Value.int _ _) | exact (rfl : _ = Value.bool _) | exact (rfl : _ = Value.slice _ _ _) | exact (rfl : _ = Value.map _) | exact (rfl : _ = Value.pointer _) | exact (rfl : _ = Value.string _) | exact (rfl : _ = Value.tuple _) | exact rfl) | ((with_reducible apply w_ext); exact rfl; exact rfl) | ((with_reducible apply w_not); exact rfl) | ((with_reducible apply w_nc); exact rfl) | ((with_reducible apply w_lss); exact rfl; exact rfl) | ((with_reducible apply w_gtr); exact rfl; exact rfl) | ((with_reducible apply w_geq); exact rfl; exact rfl) | ((with_reducible apply w_eql); exact rfl; exact rfl) | ((with_reducible apply w_neq); exact rfl; exact rfl) | ((with_reducible apply w_seql); exact rfl; exact rfl) | ((with_reducible apply w_sneq); exact rfl; exact rfl) | ((with_reducible apply w_beql (ht := Try.underlying4)); exact rfl; exact rfl) | ((with_reducible apply w_bneq (ht := Try.underlying4)); exact rfl; exact rfl) | ((with_reducible apply w_lens (ht := Try.underlying22)); exact rfl) | ((with_reducible apply w_lens (ht := Try.underlying23)); exact rfl) | ((with_reducible apply w_lens (ht := Try.underlying39)); exact rfl) | ((with_reducible apply w_lens (ht := Try.underlying40)); exact rfl) | ((with_reducible apply w_lens (ht := Try.underlying47)); exact rfl) | ((with_reducible apply w_lens (ht := Try.underlying48)); exact rfl) | ((with_reducible apply w_lenstr (ht := Try.underlying9)); exact rfl)))
  refine wl_val (ex_build48 rfl) ?_
  generalize hw6 : w5.alloc (.cells #[.int .i64 ((s.nxt : Nat) : Int)] 3) = w6
  have sz6 : w6.heap.size = w5.heap.size + 1 := by rw [← hw6]; simp
  have n6 : w6.heap[w5.heap.size]? = some (.cells #[.int .i64 ((s.nxt : Nat) : Int)] 3 (0, 0)) := by rw [← hw6]; exact (heap_alloc w5 _).1
  have o6 : ∀ i, i < w5.heap.size → w6.heap[i]? = w5.heap[i]? := fun i hi => by rw [← hw6]; exact (heap_alloc w5 _).2 i hi
  have kpN6 : Kp c.N [] c.wN w6 := by rw [← hw6]; exact kpN5.alloc (by omega) _
  clear hw6
  have pd6 : Arr w6 (c.N + 3) c.tx.length 3 s.pf := pd5.of_block (o6 _ (by omega))
  refine wl_val (ex_append_room (v := .int .i64 ((s.nxt : Nat) : Int)) Try.underlying48 size3 rfl rfl pd6 n6 rfl (by rw [arr_size]; omega) (by omega)) ?_
  generalize hw7 : setBlock w6 (c.N + 3) (.cells ((arr c.tx.length s.pf).setIfInBounds s.pend.length (.int .i64 ((s.nxt : Nat) : Int))) 3 (0, 0)) = w7
  have sz7 : w7.heap.size = w6.heap.size := by rw [← hw7, size_setBlock]
  have pd7 : Arr w7 (c.N + 3) c.tx.length 3 (fun j => if j = s.pend.length then .int .i64 ((s.nxt : Nat) : Int) else s.pf j) := by
    unfold Arr
    rw [← hw7, heap_setBlock (by omega), if_pos rfl, arr_set]
  have o7 : ∀ i, i ≠ c.N + 3 → w7.heap[i]? = w6.heap[i]? := fun i hi => by rw [← hw7, heap_setBlock (by omega), if_neg hi]
  have kpN7 : Kp c.N [] c.wN w7 := by rw [← hw7]; exact kpN6.setBlock (Or.inl (by omega)) _
  clear hw7
  have k7 : ∀ i, i < w5.heap.size → i ≠ c.N + 3 → w7.heap[i]? = w5.heap[i]? := fun i hi h3 => (o7 i h3).trans (o6 i hi)
  (repeat (first | ((with_reducible apply w_mv); first | exact (rfl : _ = Value.int _ _) | exact (rfl : _ = Value.bool _) | exact (rfl : _ = Value.slice _ _ _) | exact (rfl : _ = Value.map _) | exact (rfl : _ = Value.pointer _) | exact (rfl : _ = Value.string _) | exact (rfl : _ = Value.tuple _) | exact rfl) | ((with_reducible apply w_as); first | exact (rfl : _ = Value.int _ _) | exact (rfl : _ = Value.bool _) | exact (rfl : _ = Value.slice _ _ _) | exact (rfl : _ = Value.map _) | exact (rfl : _ = Value.pointer _) | exact (rfl : _ = Value.string _) | exact (rfl : _ = Value.tuple _) | exact rfl) | ((with_reducible apply w_ext); exact rfl; exact rfl) | ((with_reducible apply w_not); exact rfl) | ((with_reducible apply w_nc); exact rfl) | ((with_reducible apply w_lss); exact rfl; exact rfl) | ((with_reducible apply w_gtr); exact rfl; exact rfl) | ((with_reducible apply w_geq); exact rfl; exact rfl) | ((with_reducible apply w_eql); exact rfl; exact rfl) | ((with_reducible apply w_neq); exact rfl; exact rfl) | ((with_reducible apply w_seql); exact rfl; exact rfl) | ((with_reducible apply w_sneq); exact rfl; exact rfl) | ((with_reducible apply w_beql (ht := Try.underlying4)); exact rfl; exact rfl) | ((with_reducible apply w_bneq (ht := Try.underlying4)); exact rfl; exact rfl) | ((with_reducible apply w_lens (ht := Try.underlying22)); exact rfl) | ((with_reducible apply w_lens (ht := Try.underlying23)); exact rfl) | ((with_reducible apply w_lens (ht := Try.underlying39)); exact rfl) | ((with_reducible apply w_lens (ht := Try.underlying40)); exact rfl) | ((with_reducible apply w_lens (ht := Try.underlying47)); exact rfl) | ((with_reducible apply w_lens (ht := Try.underlying48)); exact rfl) | ((with_reducible apply w_lenstr (ht := Try.underlying9)); exact rfl)))
  (refine sq_nil ?_)
  refine wp_region_lit ?_
  (repeat (first | ((with_reducible apply w_mv); first | exact (rfl : _ = Value.int _ _) | exact (rfl : _ = Value.bool _) | exact (rfl : _ = Value.slice _ _ _) | exact (rfl : _ = Value.map _) | exact (rfl : _ = Value.pointer _) | exact (rfl : _ = Value.string _) | exact (rfl : _ = Value.tuple _) | exact rfl) | ((with_reducible apply w_as); first | exact (rfl : _ = Value.int _ _) | exact (rfl : _ = Value.bool _) | exact (rfl : _ = Value.slice _ _ _) | exact (rfl : _ = Value.map _) | exact (rfl : _ = Value.pointer _) | exact (rfl : _ = Value.string _) | exact (rfl : _ = Value.tuple _) | exact rfl) | ((with_reducible apply w_ext); exact rfl; exact rfl) | ((with_reducible apply w_not); exact rfl) | ((with_reducible apply w_nc); exact rfl) | ((with_reducible apply w_lss); exact rfl; exact rfl) | ((with_reducible apply w_gtr); exact rfl; exact rfl) | ((with_reducible apply w_geq); exact rfl; exact rfl) | ((with_reducible apply w_eql); exact rfl; exact rfl) | ((with_reducible apply w_neq); exact rfl; exact rfl) | ((with_reducible apply w_seql); exact rfl; exact rfl) | ((with_reducible apply w_sneq); exact rfl; exact rfl) | ((with_reducible apply w_beql (ht := Try.underlying4)); exact rfl; exact rfl) | ((with_reducible apply w_bneq (ht := Try.underlying4)); exact rfl; exact rfl) | ((with_reducible apply w_lens (ht := Try.underlying22)); exact rfl) | ((with_reducible apply w_lens (ht := Try.underlying23)); exact rfl) | ((with_reducible apply w_lens (ht := Try.underlying39)); exact rfl) | ((with_reducible apply w_lens (ht := Try.underlying40)); exact rfl) | ((with_reducible apply w_lens (ht := Try.underlying47)); exact rfl) | ((with_reducible apply w_lens (ht := Try.underlying48)); exact rfl) | ((with_reducible apply w_lenstr (ht := Try.underlying9)); exact rfl)))
  refine wl_val (ex_addi (c := ((s.nxt + 1 : Nat) : Int)) rfl rfl (by omega) (by omega)) ?_
  (repeat (first | ((with_reducible apply w_mv); first | exact (rfl : _ = Value.int _ _) | exact (rfl : _ = Value.bool _) | exact (rfl : _ = Value.slice _ _ _) | exact (rfl : _ = Value.map _) | exact (rfl : _ = Value.pointer _) | exact (rfl : _ = Value.string _) | exact (rfl : _ = Value.tuple _) | exact rfl) | ((with_reducible apply w_as); first | exact (rfl : _ = Value.int _ _) | exact (rfl : _ = Value.bool _) | exact (rfl : _ = Value.slice _ _ _) | exact (rfl : _ = Value.map _) | exact (rfl : _ = Value.pointer _) | exact (rfl : _ = Value.string _) | exact (rfl : _ = Value.tuple _) | exact rfl) | ((with_reducible apply w_ext); exact rfl; exact rfl) | ((with_reducible apply w_not); exact rfl) | ((with_reducible apply w_nc); exact rfl) | ((with_reducible apply w_lss); exact rfl; exact rfl) | ((with_reducible apply w_gtr); exact rfl; exact rfl) | ((with_reducible apply w_geq); exact rfl; exact rfl) | ((with_reducible apply w_eql); exact rfl; exact rfl) | ((with_reducible apply w_neq); exact rfl; exact rfl) | ((with_reducible apply w_seql); exact rfl; exact rfl) | ((with_reducible apply w_sneq); exact rfl; exact rfl) | ((with_reducible apply w_beql (ht := Try.underlying4)); exact rfl; exact rfl) | ((with_reducible apply w_bneq (ht := Try.underlying4)); exact rfl; exact rfl) | ((with_reducible apply w_lens (ht := Try.underlying22)); exact rfl) | ((with_reducible apply w_lens (ht := Try.underlying23)); exact rfl) | ((with_reducible apply w_lens (ht := Try.underlying39)); exact rfl) | ((with_reducible apply w_lens (ht := Try.underlying40)); exact rfl) | ((with_reducible apply w_lens (ht := Try.underlying47)); exact rfl) | ((with_reducible apply w_lens (ht := Try.underlying48)); exact rfl) | ((with_reducible apply w_lenstr (ht := Try.underlying9)); exact rfl)))
  refine wpList_nil (hnorm _ w7 ⟨s.nxt + 1, s.pend ++ [s.nxt], (fun k => if (c.T s.nxt).testBit k then s.tb k + 1 else s.tb k), m', (fun i => if i = s.nxt then wm else s.wl i), (fun i => if i = s.nxt then w.heap.size + 1 else s.wbk i), (fun j => if j = s.pend.length then .int .i64 ((s.nxt : Nat) : Int) else s.pf j)⟩ p'
    ⟨rfl, rfl, rfl, rfl, rfl, rfl, ?_, rfl, rfl, rfl, rfl, rfl⟩ ?_ ⟨kpN7, by omega, ?_, ?_, ?_, pd7, ?_, ?_, ?_, hlt, hinv'⟩)
  · show _ = Value.slice _ (s.pend ++ [s.nxt]).length _
    rw [List.length_append]
    rfl
  · show p' ≤ 8 * (s.nxt + 1)
    omega
  · exact app4.keep ((k7 _ (by omega) (by omega)).trans (hb5 _ (by omega))) ((k7 _ (by omega) (by omega)).trans (hb5 _ (by omega)))
  · refine (ws5.of_block (k7 _ (by omega) (by omega))).congr (fun i hi => ?_)
    by_cases e : i = s.nxt
    · subst e; simp
    · have h1 : (i < s.nxt + 1) = (i < s.nxt) := by apply propext; omega
      simp only [if_neg e, h1]
  · intro i hi
    by_cases e : i = s.nxt
    · subst e
      simp only [↓reduceIte]
      exact ⟨(hwm4.of_block (hb5 _ (by omega))).of_block (k7 _ (by omega) (by omega)), by omega⟩
    · simp only [if_neg e]
      have hmi := hw.maps i (by have : i < s.nxt + 1 := hi; omega)
      have hlt := hmi.1.lt
      exact ⟨(hmi.1.of_block (k5 _ hmi.1.lt (by omega) (by omega) (by omega) (by omega))).of_block (k7 _ (by omega) (by omega)), hmi.2⟩
  · intro j v hj
    rw [List.getElem?_append] at hj
    split at hj
    · rename_i hjl
      simp only [if_neg (Nat.ne_of_lt hjl)]
      exact hw.pdv j v hj
    · rename_i hjl
      have h1 := (List.getElem?_eq_some_iff.1 hj).1
      simp at h1
      have h2 : j = s.pend.length := by omega
      subst h2
      simp at hj
      subst hj
      simp
  · refine ((hp4.of_block (hb5 _ (by omega))).of_block (k7 _ (by omega) (by omega))).congr (fun q hq => ?_)
    rw [pcnt_snoc]
    cases hb : (c.T s.nxt).testBit q <;> simp [hq]
  · refine ((ht4.of_block (hb5 _ (by omega))).of_block (k7 _ (by omega) (by omega))).congr (fun q hq => ?_)
    show _ = Value.int .u64 ((if (c.T s.nxt).testBit q = true then s.tb q + 1 else s.tb q : Nat) : Int)
    cases hb : (c.T s.nxt).testBit q <;> simp [hq]
end Go.Proofs.Qxb6600002a
